import Derived.Test.YthcalnnipjflkaaGreatDoorP20
open Go.Lib renaming cell_of_heap -> ae, frozen_of_heap -> ag
open Option renaming none -> af, some -> ah
open PLift renaming up -> aj
open Bool renaming false -> au, true -> aK
open List renaming setIfInBounds_toArray -> ax, set_cons_succ -> ay, set_cons_zero -> az, getElem?_eq_getElem -> aS, nil_append -> bu, getElem?_eq_none -> bz
open Array renaming getElem?_eq_some_iff -> aA, getElem?_modify -> aV, size_push -> aW, getElem?_push -> bD
open Nat renaming reduceAdd -> aB, le_refl -> aP, lt_of_lt_of_le -> aQ, zero_le -> aT, lt_succ_self -> aU, mul_le_mul_right -> aX, pow_le_pow_right -> bC, pow_succ -> bF, mul_assoc -> bG, le_trans -> bH, pow_add -> bI
open Go.Proofs.Tryz renaming underlying227 -> aC, prog -> aY, f156 -> bn
open Go renaming Value -> aH, World -> aI, bodyPost_ret -> aN
open Go.RowKit.Below renaming refl -> aJ
open UInt8 renaming toNat_inj -> aO
open Option.some renaming injEq -> aZ
set_option linter.all false
set_option maxHeartbeats 4000000
set_option maxRecDepth 100000
namespace Go.Proofs.YthcalnnipjflkaaGreatDoor
open Go.RowKit
open Go.Lib hiding intOf
structure Mo where
 sh:Nat
 f:List Nat
 na:Nat
 zo:Nat
def jX (sh:Nat)(f:List Nat)(na a:Nat):List aH:=.int .i64 (sh:Int)::(f.map λ(v:Nat)=>Value.int .i64 (v:Int))++[.int .i64 (na:Int),.int .u8 (a:Int)]
def Mo.cells (m:Mo):List aH:=jX m.sh m.f m.na m.zo
def jS (l:List UInt8):Nat->Nat->Nat->Nat×Nat
 |0,k,na=>(na,k)
 |n+1,k,na=>match l[k]? with
  |none=>(na,k)
  |some c=>if jZ c=aK then jS l n (k+1) (10*na+(c.toNat - 48))else(na,k)
def vY (l:List UInt8)(k:Nat):Option (Nat×Nat):=
 if l[k]?=ah 46 then
  (if(jS l 9 (k+1) 0).2 =k+1 then af else ah ((jS l 9 (k+1) 0).1 *10^(9 - ((jS l 9 (k+1) 0).2 - (k+1))),(jS l 9 (k+1) 0).2))
 else ah (0,k)
def mO (l:List UInt8)(sh:Nat)(f:List Nat)(na k:Nat):Option Mo:=
 if k<l.length/\sh=3 then
  (if l[k]?=ah 90 then(if k+1=l.length then ah ⟨3,f++[0,0],na,90⟩else af)
  else if l[k]?=ah 43\/l[k]?=ah 45 then(match jW l 2 58 2 0 (k+1) []with
   |none=>af
   |some (z,a)=>if a=l.length then ah ⟨3,f++z,na,(l.getD k 0).toNat⟩else af)
  else af)
 else if k=l.length then ah ⟨sh,f++[0,0],na,0⟩else af
def qI (l:List UInt8)(sh:Nat)(d:List Nat)(k:Nat):Option Mo:=
 match jW l 2 58 3 0 k []with
 |none=>af
 |some (t,a)=>match vY l a with
  |none=>af
  |some (na,b)=>mO l (sh+2) (d++t) na b
def rD (l:List UInt8):Option Mo:=
 if 2<l.length/\¬l[2]?=ah 58 then
  (match jW l 4 45 3 0 0 []with
  |none=>af
  |some (d,k)=>if k=l.length then ah ⟨1,d++[0,0,0,0,0],0,0⟩
   else if l[k]?=ah 84\/l[k]?=ah 32 then qI l 1 d (k+1)else af)
 else qI l 0 [0,0,0] 0
def yz (r:Option Mo)(e:Ending):Prop:=match r with
 |some m=>e=.returned (.tuple #[.agg m.cells.toArray,.bool aK])
 |none=>∃a b c d f g h i j k l:Int,e=.returned (.tuple #[.agg #[.int .i64 a,.int .i64 b,.int .i64 c,.int .i64 d,.int .i64 f,.int .i64 g,.int .i64 h,.int .i64 i,.int .i64 j,.int .i64 k,.int .u8 l],.bool au])
structure Bk where
 S:Nat
 R:Nat
 M:Nat
 A:Nat
 F:Nat
 h:S<R/\R<M/\M<A/\A<F
structure St (w:aI)(s:ByteArray)(b:Bk)(k:Nat)(C:List aH)(X:aI):Prop where
 S:X.heap[b.S]?=ah (.cells #[.string s] 9)
 R:X.heap[b.R]?=ah (.cells (jX 0 [0,0,0,0,0,0,0,0] 0 0).toArray 227)
 M:X.heap[b.M]?=ah (.cells C.toArray 227)
 A:X.heap[b.A]?=ah (.cells #[.int .i64 (k:Int)] 3)
 F:X.heap[b.F]?=ah (.cells #[.func (.func 185) #[] #[.pointer (ah ⟨b.A,0,af⟩),.pointer (ah ⟨b.S,0,af⟩)]] 250)
 bl:Below w.heap.size w X
 sz:b.F<X.heap.size
 lo:w.heap.size<=b.S
theorem uB:(Tryz.prog.info? 227).map (·.size)=ah 11:=iF
theorem oQ {w:aI}{g t:Nat}{n o p q r s u v x y z:aH}(h:w.heap[g]?=ah (.cells #[n,o,p,q,r,s,u,v,x,y,z] t))(a b c d e f i j k l m:aH):(((((((((((w.setCell ⟨g,0,af⟩ a).setCell ⟨g,1,af⟩ b).setCell ⟨g,2,af⟩ c).setCell ⟨g,3,af⟩ d).setCell ⟨g,4,af⟩ e).setCell ⟨g,5,af⟩ f).setCell ⟨g,6,af⟩ i).setCell ⟨g,7,af⟩ j).setCell ⟨g,8,af⟩ k).setCell ⟨g,9,af⟩ l).setCell ⟨g,10,af⟩ m).heap[g]?=ah (.cells #[a,b,c,d,e,f,i,j,k,l,m] t):=by simp[World.setCell,aV,h]
theorem xq {w w0:aI}{g:Nat}(n:Below w0.heap.size w0 w)(a:w0.heap.size<=g)(b c d e f h i j k l m:aH):Below w0.heap.size w0 (((((((((((w.setCell ⟨g,0,af⟩ b).setCell ⟨g,1,af⟩ c).setCell ⟨g,2,af⟩ d).setCell ⟨g,3,af⟩ e).setCell ⟨g,4,af⟩ f).setCell ⟨g,5,af⟩ h).setCell ⟨g,6,af⟩ i).setCell ⟨g,7,af⟩ j).setCell ⟨g,8,af⟩ k).setCell ⟨g,9,af⟩ l).setCell ⟨g,10,af⟩ m):=(((((((((((n.setCell (p:=⟨g,0,af⟩) a b).setCell (p:=⟨g,1,af⟩) a c).setCell (p:=⟨g,2,af⟩) a d).setCell (p:=⟨g,3,af⟩) a e).setCell (p:=⟨g,4,af⟩) a f).setCell (p:=⟨g,5,af⟩) a h).setCell (p:=⟨g,6,af⟩) a i).setCell (p:=⟨g,7,af⟩) a j).setCell (p:=⟨g,8,af⟩) a k).setCell (p:=⟨g,9,af⟩) a l).setCell (p:=⟨g,10,af⟩) a m)
def nY (C:List aH):Prop:=∃(ns:List Int) (z:Int),ns.length=10/\C=ns.map (λn=>Value.int .i64 n)++[.int .u8 z]
theorem nY.jX (sh:Nat)(f:List Nat)(na a:Nat)(h:f.length=8):nY (jX sh f na a):=
 ⟨(sh:Int)::(f.map λ(v:Nat)=>(v:Int))++[(na:Int)],(a:Int),by simp[h],by simp[Go.Proofs.YthcalnnipjflkaaGreatDoor.jX,Function.comp_def]⟩
theorem nY.lW {C:List aH}(h:nY C)(off:Nat)(vs:List Nat)(a:off+vs.length<=10):nY (lW C off vs):=by obtain⟨ns,z,b,rfl⟩:=h;refine⟨(ns.take off++vs.map λ(v:Nat)=>(v:Int))++ns.drop (off+vs.length),z,iI,?_⟩;unfold Go.Proofs.YthcalnnipjflkaaGreatDoor.lW;rw[List.take_append_of_le_length iI,List.drop_append_of_le_length iI];simp[Function.comp_def]
theorem ten {C:List aH}(h:nY C):∃a b c d e f g i j k l:Int,C=[.int .i64 a,.int .i64 b,.int .i64 c,.int .i64 d,.int .i64 e,.int .i64 f,.int .i64 g,.int .i64 i,.int .i64 j,.int .i64 k,.int .u8 l]:=by
 obtain⟨ns,z,m,rfl⟩:=h
 match ns,m with
 |[a,b,c,d,e,f,g,i,j,k],_=>exact⟨a,b,c,d,e,f,g,i,j,k,z,rfl⟩
theorem yA {X:aI}{b a T:Nat}{C:List aH}(c:X.heap[b]?=ah (.cells C.toArray T))(o:nY C)(hR:X.heap[a]?=ah (.cells (jX 0 [0,0,0,0,0,0,0,0] 0 0).toArray T)):
  ∃d e f g h i j k l m n:Int,C=[.int .i64 d,.int .i64 e,.int .i64 f,.int .i64 g,.int .i64 h,.int .i64 i,.int .i64 j,.int .i64 k,.int .i64 l,.int .i64 m,.int .u8 n]/\X.cell? ⟨b,0,af⟩=ah (.int .i64 d)/\X.cell? ⟨b,1,af⟩=ah (.int .i64 e)/\X.cell? ⟨b,2,af⟩=ah (.int .i64 f)/\X.cell? ⟨b,3,af⟩=ah (.int .i64 g)/\X.cell? ⟨b,4,af⟩=ah (.int .i64 h)/\X.cell? ⟨b,5,af⟩=ah (.int .i64 i)/\X.cell? ⟨b,6,af⟩=ah (.int .i64 j)/\X.cell? ⟨b,7,af⟩=ah (.int .i64 k)/\X.cell? ⟨b,8,af⟩=ah (.int .i64 l)/\X.cell? ⟨b,9,af⟩=ah (.int .i64 m)/\X.cell? ⟨b,10,af⟩=ah (.int .u8 n)/\
   X.cell? ⟨a,0,af⟩=ah (.int .i64 0)/\X.cell? ⟨a,1,af⟩=ah (.int .i64 0)/\X.cell? ⟨a,2,af⟩=ah (.int .i64 0)/\X.cell? ⟨a,3,af⟩=ah (.int .i64 0)/\X.cell? ⟨a,4,af⟩=ah (.int .i64 0)/\X.cell? ⟨a,5,af⟩=ah (.int .i64 0)/\X.cell? ⟨a,6,af⟩=ah (.int .i64 0)/\X.cell? ⟨a,7,af⟩=ah (.int .i64 0)/\X.cell? ⟨a,8,af⟩=ah (.int .i64 0)/\X.cell? ⟨a,9,af⟩=ah (.int .i64 0)/\X.cell? ⟨a,10,af⟩=ah (.int .u8 0)/\X.frozen? ⟨a,0,af⟩=au/\X.frozen? ⟨a,1,af⟩=au/\X.frozen? ⟨a,2,af⟩=au/\X.frozen? ⟨a,3,af⟩=au/\X.frozen? ⟨a,4,af⟩=au/\X.frozen? ⟨a,5,af⟩=au/\X.frozen? ⟨a,6,af⟩=au/\X.frozen? ⟨a,7,af⟩=au/\X.frozen? ⟨a,8,af⟩=au/\X.frozen? ⟨a,9,af⟩=au/\X.frozen? ⟨a,10,af⟩=au:=by
 obtain⟨d,e,f,g,h,i,j,k,l,m,n,rfl⟩:=ten o;exact⟨d,e,f,g,h,i,j,k,l,m,n,rfl,ae c 0,ae c 1,ae c 2,ae c 3,ae c 4,ae c 5,ae c 6,ae c 7,ae c 8,ae c 9,ae c 10,ae hR 0,ae hR 1,ae hR 2,ae hR 3,ae hR 4,ae hR 5,ae hR 6,ae hR 7,ae hR 8,ae hR 9,ae hR 10,ag hR 0,ag hR 1,ag hR 2,ag hR 3,ag hR 4,ag hR 5,ag hR 6,ag hR 7,ag hR 8,ag hR 9,ag hR 10⟩
theorem QN (w:aI)(A B C D E:Obj):Below w.heap.size w (((((w.alloc A).alloc B).alloc C).alloc D).alloc E)/\(((((w.alloc A).alloc B).alloc C).alloc D).alloc E).heap[w.heap.size]?=ah A/\(((((w.alloc A).alloc B).alloc C).alloc D).alloc E).heap[w.heap.size+1]?=ah B/\(((((w.alloc A).alloc B).alloc C).alloc D).alloc E).heap[w.heap.size+1+1]?=ah C/\(((((w.alloc A).alloc B).alloc C).alloc D).alloc E).heap[w.heap.size+1+1+1]?=ah D/\(((((w.alloc A).alloc B).alloc C).alloc D).alloc E).heap[w.heap.size+1+1+1+1]?=ah E/\(((((w.alloc A).alloc B).alloc C).alloc D).alloc E).heap.size=w.heap.size+5:=by
 have a:(((((w.alloc A).alloc B).alloc C).alloc D).alloc E).heap=((((w.heap.push A).push B).push C).push D).push E:=rfl;refine⟨⟨rfl,rfl,rfl,by rw[a];simp only[aW];omega,λk b=>?_⟩,?_,?_,?_,?_,?_,by rw[a];simp only[aW]⟩
 ·rw[a]
  simp only[bD,aW]
  repeat rw[gZ iE]
 all_goals
  rw[a];simp only[bD,aW]
  repeat first|rw[gY trivial]|rw[gY iE]|rw[gZ iE]
theorem St.zC {w X c:aI}{s:ByteArray}{b:Bk}{k k':Nat}{C d:List aH}(h:St w s b k C X)(a:oP b.A b.M X c)(hA:c.heap[b.A]?=ah (.cells #[.int .i64 (k':Int)] 3))(e:c.heap[b.M]?=ah (.cells d.toArray 227)):St w s b k' d c:=by
 obtain⟨f,g,i,j⟩:=b.h;have l:=h.lo
 exact⟨(a.block _ (aA.1 h.S).1 iE iE).trans h.S,(a.block _ (aA.1 h.R).1 iE iE).trans h.R,e,hA,(a.block _ (aA.1 h.F).1 iE iE).trans h.F,
  h.bl.trans (a.below iE iE h.bl.size),aQ h.sz a.size,h.lo⟩
structure IK (w:aI)(b:Bk)(C:List aH)(X:aI):Prop where
 R:X.heap[b.R]?=ah (.cells (jX 0 [0,0,0,0,0,0,0,0] 0 0).toArray 227)
 M:X.heap[b.M]?=ah (.cells C.toArray 227)
 bl:Below w.heap.size w X
 lo:w.heap.size<=b.S
 len:nY C
theorem St.fin {w X:aI}{s:ByteArray}{b:Bk}{k:Nat}{C:List aH}(h:St w s b k C X)(a:nY C):IK w b C X:=⟨h.R,h.M,h.bl,h.lo,a⟩
theorem St.fin2 {w X a:aI}{s:ByteArray}{b:Bk}{k off:Nat}{C:List aH}{vs:List Nat}(h:St w s b k C X)(c:oP b.A b.M X a)(d:a.heap[b.M]?=ah (.cells (lW C off vs).toArray 227))(e:nY C)(hv:off+vs.length<=10):IK w b (lW C off vs) a:=by obtain⟨f,g,i,j⟩:=b.h;have l:=h.lo;exact⟨(c.block _ (aA.1 h.R).1 iE iE).trans h.R,d,h.bl.trans (c.below iE iE h.bl.size),h.lo,e.lW off vs hv⟩
theorem St.below {w X c:aI}{s:ByteArray}{b:Bk}{k:Nat}{C:List aH}(h:St w s b k C X)(a:Below X.heap.size X c):St w s b k C c:=
 ⟨(
  a.block _ (aA.1 h.S).1).trans h.S,(a.block _ (aA.1 h.R).1).trans h.R,(a.block _ (aA.1 h.M).1).trans h.M,(a.block _ (aA.1 h.A).1).trans h.A,(a.block _ (aA.1 h.F).1).trans h.F,
  h.bl.trans (a.mono h.bl.size),aQ h.sz a.size,h.lo⟩
theorem St.zD {w X:aI}{s:ByteArray}{b:Bk}{k:Nat}{C:List aH}(h:St w s b k C X)(i:Nat)(v:aH):St w s b k (C.set i v) (X.setCell ⟨b.M,i,af⟩ v):=by obtain⟨a,c,d,e⟩:=b.h;refine h.zC ((But.set b.M i X v).right b.A) (((But.set b.M i X v).block b.A (aA.1 h.A).1 iE).trans h.A) ?_;have hm:=h.M;simp[World.setCell,aV,hm]
theorem St.zF {w X:aI}{s:ByteArray}{b:Bk}{k:Nat}{C:List aH}(h:St w s b k C X)(k':Nat):St w s b k' C (X.setCell ⟨b.A,0,af⟩ (.int .i64 (k':Int))):=by obtain⟨a,c,d,e⟩:=b.h;exact h.zC ((But.set b.A 0 X _).left b.M) (set1 h.A _) (((But.set b.A 0 X _).block b.M (aA.1 h.M).1 iE).trans h.M)
theorem three {vs:List Nat}(h:vs.length=3):∃a b c,vs=[a,b,c]:=by
 match vs,h with
 |[a,b,c],_=>exact⟨a,b,c,rfl⟩
theorem two {vs:List Nat}(h:vs.length=2):∃a b,vs=[a,b]:=by
 match vs,h with
 |[a,b],_=>exact⟨a,b,rfl⟩
def nO (s:ByteArray)(N:Array aH)(k:Nat)(g:Nat)(i:Nat)(x:Nat->aH)(X:aI):Prop:=
 match i with
 |0=>x 0=.agg N
 |1=>x 1=.int .i64 (k:Int)
 |2=>x 2=.string s
 |3=>x 3=.int .i64 (s.size:Int)
 |4=>x 4=.bool ((k:Int)==(s.size:Int))
 |5=>X.heap[g]?=ah (.cells N 227)
 |_=>x 6=.bool ((k:Int)==(s.size:Int))
def pY:Nat->List Nat
 |3=>[2]
 |4=>[1,3]
 |5=>[0]
 |6=>[4]
 |_=>[]
theorem nO.keep {s:ByteArray}{N:Array aH}{k g:Nat}{Z:Obj}(i:Nat)(x c:Nat->aH)(X b:aI)(hi:i<7)(hx:∀k,k=i\/k∈pY i->c k=x k)(d:jK g Z (.cells N 227) X b\/X=b)(h:nO s N k g i x X):nO s N k g i c b:=by
 have e:i=0\/i=1\/i=2\/i=3\/i=4\/i=5\/i=6:=iE
 have a:=hx i (.inl rfl);rcases e with rfl|rfl|rfl|rfl|rfl|rfl|rfl
 ·exact a.trans h
 ·exact a.trans h
 ·exact a.trans h
 ·exact a.trans h
 ·exact a.trans h
 ·rcases d with f|rfl
  ·exact f.2.2.1 h
  ·exact h
 ·exact a.trans h
theorem IL {w:aI}{g k:Nat}(a b c d f i j l m n o:aH)(h:k≠g):(((((((((((w.setCell ⟨g,0,af⟩ a).setCell ⟨g,1,af⟩ b).setCell ⟨g,2,af⟩ c).setCell ⟨g,3,af⟩ d).setCell ⟨g,4,af⟩ f).setCell ⟨g,5,af⟩ i).setCell ⟨g,6,af⟩ j).setCell ⟨g,7,af⟩ l).setCell ⟨g,8,af⟩ m).setCell ⟨g,9,af⟩ n).setCell ⟨g,10,af⟩ o).heap[k]?=w.heap[k]?:=by
 have p:¬g=k:=λe=>h e.symm
 simp[World.setCell,aV,p]
theorem IM {w w0:aI}{g B:Nat}(n:Below B w0 w)(a:B<=g)(b c d e f h i j k l m:aH):Below B w0 (((((((((((w.setCell ⟨g,0,af⟩ b).setCell ⟨g,1,af⟩ c).setCell ⟨g,2,af⟩ d).setCell ⟨g,3,af⟩ e).setCell ⟨g,4,af⟩ f).setCell ⟨g,5,af⟩ h).setCell ⟨g,6,af⟩ i).setCell ⟨g,7,af⟩ j).setCell ⟨g,8,af⟩ k).setCell ⟨g,9,af⟩ l).setCell ⟨g,10,af⟩ m):=(((((((((((n.setCell (p:=⟨g,0,af⟩) a b).setCell (p:=⟨g,1,af⟩) a c).setCell (p:=⟨g,2,af⟩) a d).setCell (p:=⟨g,3,af⟩) a e).setCell (p:=⟨g,4,af⟩) a f).setCell (p:=⟨g,5,af⟩) a h).setCell (p:=⟨g,6,af⟩) a i).setCell (p:=⟨g,7,af⟩) a j).setCell (p:=⟨g,8,af⟩) a k).setCell (p:=⟨g,9,af⟩) a l).setCell (p:=⟨g,10,af⟩) a m)
theorem IP {l:List UInt8}{sh na k:Nat}{f:List Nat}(h:¬(k<l.length/\sh=3)):mO l sh f na k=if k=l.length then ah ⟨sh,f++[0,0],na,0⟩else af:=by unfold mO;rw[gZ h]
theorem QO {l:List UInt8}{na k:Nat}{f:List Nat}(a:k<l.length)(b:l[k]?=ah 90):mO l 3 f na k=if k+1=l.length then ah ⟨3,f++[0,0],na,90⟩else af:=by unfold mO;rw[gY ⟨a,rfl⟩,gY b]
theorem QP {l:List UInt8}{na k:Nat}{f:List Nat}{c:UInt8}(b:k<l.length)(a:l[k]?=ah c)(d:c≠90)(e:¬(c=43\/c=45)):mO l 3 f na k=af:=by unfold mO;rw[gY ⟨b,rfl⟩,gZ (by rw[a];intro h;cases h;exact d rfl),gZ (by rw[a];intro h;exact e (h.imp (λh=>by cases h;rfl) (λh=>by cases h;rfl)))]
theorem QQ {l:List UInt8}{na k:Nat}{f:List Nat}{c:UInt8}(d:k<l.length)(a:l[k]?=ah c)(b:c=43\/c=45)(hf:jW l 2 58 2 0 (k+1) []=af):mO l 3 f na k=af:=by unfold mO;rw[gY ⟨d,rfl⟩,gZ (by rw[a];intro h;cases h;exact b.elim (λh=>by cases h) (λh=>by cases h)),gY (by rw[a];exact b.imp (ig ah) (ig ah)),hf]
theorem QR {l:List UInt8}{na k b:Nat}{f z:List Nat}{c:UInt8}(e:k<l.length)(a:l[k]?=ah c)(d:c=43\/c=45)(hf:jW l 2 58 2 0 (k+1) []=ah (z,b)):mO l 3 f na k=if b=l.length then ah ⟨3,f++z,na,c.toNat⟩else af:=by unfold mO;rw[gY ⟨e,rfl⟩,gZ (by rw[a];intro h;cases h;exact d.elim (λh=>by cases h) (λh=>by cases h)),gY (by rw[a];exact d.imp (ig ah) (ig ah)),hf];simp only[List.getD_eq_getElem?_getD,a,Option.getD_some]
theorem IQ {l:List UInt8}{n k na:Nat}{c:UInt8}(h:l[k]?=ah c)(hd:jZ c=aK):jS l (n+1) k na=jS l n (k+1) (10*na+(c.toNat - 48)):=by
 conv=>lhs;unfold jS
 rw[h];simp only[hd,if_true]
theorem Eo {l:List UInt8}{n k na:Nat}{c:UInt8}(h:l[k]?=ah c)(hd:jZ c=au):jS l n k na=(na,k):=by
 cases n with
 |zero=>rfl
 |succ n=>unfold jS;rw[h];simp[hd]
theorem QS {l:List UInt8}{n k na:Nat}(h:l.length<=k):jS l n k na=(na,k):=by
 cases n with
 |zero=>rfl
 |succ n=>unfold jS;rw[bz h]
def yB:Code->List Bool->Code
 |c,[]=>c
 |.seq _ y,aK::l=>yB y l
 |.seq x _,au::l=>yB x l
 |c,_=>c
theorem QT (s:ByteArray)(hs:s.size<=1000000)(w:aI)(b:Bk)(aq:Option Mo)(Q:Exit->Act->aI->Prop)(a3:PLift (∀a X,bodyPost aY bn (λe w'=>Below w.heap.size w w'/\yz aq e) .ret a X->Q .ret a X))
  (K d0 l m p t u:Nat)(fz:K<=3)(na k:Nat){bA bB bE bL bM bN bO bR bS bX b0 b1 b2 b3 b4 b5 b6 b7 b8 b9 cb cc cd ce cf cg ch ci cj ck cl cm cn co cp cq cr cs ct cv cw cx cy cz cA cB cC cD cE cF cG cH cI cJ cK cL cM cN cO cP cQ cR cS cT cU cV cW cX cY c0 c1 c2 c3 c4 c5 c6 c7 c8 c9 da db dc dd de df dg dj dk dl dp dq dr ds dt du dv dx dy dz dS dT:aH}(X:aI)(a4:k<=s.size)(g:St w s b k (jX (K) [d0,l,m,p,t,u,0,0] (na) (0)) X)(D:aq=mO s.data.toList K [d0,l,m,p,t,u] na k):
  Code.wp aY (yB (Tryz.f156.body.getD .skip) [aK,aK,aK,aK,aK,aK,aK,aK,aK]) Q {tmps:=#[.string s,.pointer (ah ⟨b.S,0,af⟩),.pointer (ah ⟨b.R,0,af⟩),.bool au,.pointer (ah ⟨b.M,0,af⟩),.pointer (ah ⟨b.A,0,af⟩),.pointer (ah ⟨b.F,0,af⟩),.func (.func 186) #[] #[.pointer (ah ⟨b.A,0,af⟩),.pointer (ah ⟨b.S,0,af⟩),.pointer (ah ⟨b.F,0,af⟩)],bA,.func (.func 185) #[] #[.pointer (ah ⟨b.A,0,af⟩),.pointer (ah ⟨b.S,0,af⟩)],.func (.func 186) #[] #[.pointer (ah ⟨b.A,0,af⟩),.pointer (ah ⟨b.S,0,af⟩),.pointer (ah ⟨b.F,0,af⟩)],bB,bE,bL,bM,bN,bO,bR,bS,bX,b0,b1,b2,b3,b4,b5,b6,b7,b8,b9,cb,cc,cd,ce,cf,cg,ch,ci,cj,ck,cl,cm,cn,co,cp,cq,cr,cs,ct,cv,cw,cx,cy,cz,cA,cB,cC,cD,cE,cF,cG,cH,cI,cJ,cK,cL,cM,cN,cO,cP,cQ,cR,cS,cT,cU,cV,cW,cX,cY,c0,c1,c2,c3,c4,c5,c6,c7,c8,c9,da,db,dc,dd,de,df,dg,dj,dk,dl,dp,dq,dr,ds,dt,du,dv,dx,dy,dz,dS,dT,undef,undef,undef,undef,undef,undef,undef,undef,undef,undef,undef,undef,undef,undef,undef,undef,undef,undef,undef,undef,undef,undef,undef,undef,undef,undef,undef,undef,undef,undef,undef,undef,undef,undef,undef,undef,undef,undef,undef,undef,undef,undef,undef,undef],defers:=[]} X:=by
 have fI:(s.size:Int)<=1000000:=iE
 have a5:=aj (iJ hs (show s.data.toList.length=s.size by simp))
 have d1:=aj (λ(X:aI) (b:Bk) (k:Nat) (C:List aH) (n first off cap:Nat) (sep:UInt8) (g:St w s b k C X) (a4:k<=s.size) (hn:n<=3) (hf:first<=4) (hc:n<=cap) (d2:cap<=8) (ar:off+n<=C.length) (d3:C.length<=20)=>En s n first k b.A b.S b.M b.F off cap sep C X hn hf hs a4 hc d2 ar d3 g.A g.S g.M g.F)
 have d4:=aj (λ(q:Nat) (h:q<s.size)=>show s.data.toList[q]?=ah (s[q]'h) by rw[aS (by simpa using h)];rfl)
 clear hs;dsimp only[yB,bn,Option.getD,if_true];have bo:=aj a4;have I:=aj g;have ao:=aj D;have fL:(k:Int)<=(s.size:Int):=iE
 have fN:(0:Int)<=(k:Int):=iE
 have fR:(K:Int)<=3:=iE
 clear D a4 g;have a8:=iK I.1.S 0 (.string s);have ca:=iK I.1.A 0 (.int .i64 ((k:Nat):Int));have d5:=ag I.1.A 0;have a9:=iK I.1.M 0 (.int .i64 ((K:Nat):Int));have d6:=ag I.1.M 0;by_cases O:k<s.size
 case' neg=>
  have d7:¬(k:Int)<(s.size:Int):=iE
  have av:=aj (ao.1.trans (IP (λh=>O (by rw[<-a5.1.2];exact h.1))));clear O
  go_upto_region 36 with fail
  obtain⟨aw,aD⟩:=iD X;subst aD;obtain⟨y,e6,e7,z,v,L,N⟩:∃y e6 e7 z v:Nat,St w s b v (jX y [d0,l,m,p,t,u,e6,e7] na z) aw/\aq=if v=s.data.toList.length then ah ⟨y,[d0,l,m,p,t,u,e6,e7],na,z⟩else af:=⟨K,0,0,0,k,I.1,av.1⟩
  have J:=aj L;have ba:=aj N;clear L N
 case' pos=>
  have d7:(k:Int)<(s.size:Int):=iE
  by_cases P:K=3
  case' neg=>
   have fS:((K:Int)==3)=au:=iI;have av:=aj (ao.1.trans (IP (λh=>P h.2)));clear P
   go_upto_region 36 with fail
   obtain⟨aw,aD⟩:=iD X;subst aD;obtain⟨y,e6,e7,z,v,L,N⟩:∃y e6 e7 z v:Nat,St w s b v (jX y [d0,l,m,p,t,u,e6,e7] na z) aw/\aq=if v=s.data.toList.length then ah ⟨y,[d0,l,m,p,t,u,e6,e7],na,z⟩else af:=⟨K,0,0,0,k,I.1,av.1⟩
   have J:=aj L;have ba:=aj N;clear L N
  case' pos=>
   subst P;obtain⟨c,hc⟩:∃c,s[k]'O=c:=⟨_,rfl⟩
   have bb:=d4.1 k O;rw[hc]at bb;obtain⟨x,hx⟩:∃x:Nat,c.toNat=x:=⟨_,rfl⟩;have fT:((s[k]'O).toNat:Int)=(x:Int):=by rw[hc,hx]
   have fW:(x:Int)<=255:=(by have:=c.toNat_lt;omega);have E:=aj (iJ bb (iJ hx (show k<s.data.toList.length by rw[a5.1.2];exact O)));clear bb hc hx;have a6:=iK I.1.M 10 (.int .u8 ((0:Nat):Int));have bp:=ag I.1.M 10
   go_upto_region 32 with fail
   obtain⟨ap,bc⟩:=iC ((X.setCell ⟨b.M,10,af⟩ (.int .u8 (x:Int))).setCell ⟨b.A,0,af⟩ (.int .i64 ((k:Int)+1)));have B:PLift (St w s b (k+1) (jX (3) [d0,l,m,p,t,u,0,0] (na) (x)) ap):=⟨by rw[<-bc];exact(I.1.zD 10 (.int .u8 (x:Int))).zF (k+1)⟩;rw[bc];clear bc a8 ca d5 a9 d6 a6 bp I;have a6:=iK B.1.M 10 (.int .u8 ((x:Nat):Int));have bp:=ag B.1.M 10;by_cases bd:x=90
   case pos=>
    subst bd;have av:=aj (ao.1.trans (QO E.1.2.2 (by rw[E.1.1];exact ig ah (aO.1 E.1.2.1))))
    go_upto_region 33 with fail
    refine Mix.Eh 129 5 3 pY (jK b.R (.cells #[.int .i64 0,.int .i64 0,.int .i64 0,.int .i64 0,.int .i64 0,.int .i64 0,.int .i64 0,.int .i64 0,.int .i64 0,.int .i64 0,.int .u8 0] 227) (.cells #[.int .i64 ((3:Nat):Int),.int .i64 ((d0:Nat):Int),.int .i64 ((l:Nat):Int),.int .i64 ((m:Nat):Int),.int .i64 ((p:Nat):Int),.int .i64 ((t:Nat):Int),.int .i64 ((u:Nat):Int),.int .i64 ((0:Nat):Int),.int .i64 ((0:Nat):Int),.int .i64 ((na:Nat):Int),.int .u8 ((90:Nat):Int)] 227)) (nO s #[.int .i64 ((3:Nat):Int),.int .i64 ((d0:Nat):Int),.int .i64 ((l:Nat):Int),.int .i64 ((m:Nat):Int),.int .i64 ((p:Nat):Int),.int .i64 ((t:Nat):Int),.int .i64 ((u:Nat):Int),.int .i64 ((0:Nat):Int),.int .i64 ((0:Nat):Int),.int .i64 ((na:Nat):Int),.int .u8 ((90:Nat):Int)] (k+1) b.R) iF rfl (.inl iG) iF iF iF iF (jK.of (by have:=B.1.sz;have:=b.h;omega) ⟨rfl,rfl,rfl,aP _,λ_ _=>rfl⟩) (λ_ _ _ h k=>h.trans k) (λi x be X bf hi hx bg h=>nO.keep i x be X bf hi hx bg h) ?z0 ?hN
    case z0=>
     intro i o x X hi f g hd;have j:=(g.2.1 b.M (by have:=b.h;omega) (by have:=B.1.sz;have:=b.h;omega)).trans B.1.M;have aE:=(g.2.1 b.A (by have:=b.h;omega) (by have:=B.1.sz;have:=b.h;omega)).trans B.1.A;have aF:=(g.1.block b.S (by have:=b.h;omega)).trans B.1.S;have bj:=g.2.2.2 (.inl B.1.R);have G:b.R<X.heap.size:=aQ (by have:=B.1.sz;have:=b.h;omega) g.1.size;have a9:=iK j 0 (.int .i64 ((3:Nat):Int));have d8:=iK j 1 (.int .i64 ((d0:Nat):Int));have d9:=iK j 2 (.int .i64 ((l:Nat):Int));have ea:=iK j 3 (.int .i64 ((m:Nat):Int));have eb:=iK j 4 (.int .i64 ((p:Nat):Int));have ec:=iK j 5 (.int .i64 ((t:Nat):Int));have ee:=iK j 6 (.int .i64 ((u:Nat):Int));have ef:=iK j 7 (.int .i64 ((0:Nat):Int));have eg:=iK j 8 (.int .i64 ((0:Nat):Int));have eh:=iK j 9 (.int .i64 ((na:Nat):Int));have a6:=iK j 10 (.int .u8 ((90:Nat):Int));have ca:=iK aE 0 (.int .i64 ((k+1:Nat):Int));have a8:=iK aF 0 (.string s);clear j aE aF g
     match i,hi with
     |0,_=>injection f with f;subst f;refine .inl (.inr ⟨rfl,.inl ⟨.agg #[.int .i64 ((3:Nat):Int),.int .i64 ((d0:Nat):Int),.int .i64 ((l:Nat):Int),.int .i64 ((m:Nat):Int),.int .i64 ((p:Nat):Int),.int .i64 ((t:Nat):Int),.int .i64 ((u:Nat):Int),.int .i64 ((0:Nat):Int),.int .i64 ((0:Nat):Int),.int .i64 ((na:Nat):Int),.int .u8 ((90:Nat):Int)],X,?_,jK.of G (aJ _ _),iR.upd_same _ _ _⟩⟩);simp only[Mix.jA,iR.jg,aB,ax,ay,az];go_simp
     |1,_=>injection f with f;subst f;refine .inl (.inr ⟨rfl,.inl ⟨.int .i64 ((k+1:Nat):Int),X,?_,jK.of G (aJ _ _),iR.upd_same _ _ _⟩⟩);simp only[Mix.jA,iR.jg,aB,ax,ay,az];go_simp
     |2,_=>injection f with f;subst f;refine .inl (.inr ⟨rfl,.inl ⟨.string s,X,?_,jK.of G (aJ _ _),iR.upd_same _ _ _⟩⟩);simp only[Mix.jA,iR.jg,aB,ax,ay,az];go_simp
     |3,_=>injection f with f;subst f;have aG:=hd 2 (by simp[pY]);simp only[nO]at aG;refine .inl (.inr ⟨rfl,.inl ⟨.int .i64 (s.size:Int),X,?_,jK.of G (aJ _ _),iR.upd_same _ _ _⟩⟩);simp only[Mix.jA,iR.jg,aB,ax,ay,az];go_simp
     |4,_=>injection f with f;subst f;have aL:=hd 1 (by simp[pY]);have P:=hd 3 (by simp[pY]);simp only[nO]at aL P;refine .inl (.inr ⟨rfl,.inl ⟨.bool (((k+1:Nat):Int)==(s.size:Int)),X,?_,jK.of G (aJ _ _),iR.upd_same _ _ _⟩⟩);simp only[Mix.jA,iR.jg,aB,ax,ay,az];go_simp
     |5,_=>
      injection f with f;subst f;have bk:=hd 0 (by simp[pY]);simp only[nO]at bk
      have d:∃T r1 r2 U V W Y Z aa ab ac,X.heap[b.R]?=ah (.cells #[T,r1,r2,U,V,W,Y,Z,aa,ab,ac] 227):=by
       rcases bj with h|h
       ·exact⟨_,_,_,_,_,_,_,_,_,_,_,h⟩
       ·exact⟨_,_,_,_,_,_,_,_,_,_,_,h⟩
      obtain⟨T,r1,r2,U,V,W,Y,Z,aa,ab,ac,d⟩:=d;have ei:=iK d 0 T;have ej:=ag d 0;have ek:=iK d 1 r1;have el:=ag d 1;have em:=iK d 2 r2;have en:=ag d 2;have eo:=iK d 3 U;have ep:=ag d 3;have eq:=iK d 4 V;have er:=ag d 4;have es:=iK d 5 W;have et:=ag d 5;have ev:=iK d 6 Y;have ew:=ag d 6;have ex:=iK d 7 Z;have ey:=ag d 7;have ez:=iK d 8 aa;have eA:=ag d 8;have eB:=iK d 9 ab;have eC:=ag d 9;have eD:=iK d 10 ac;have eE:=ag d 10;refine .inr ⟨rfl,rfl,(((((((((((X.setCell ⟨b.R,0,af⟩ (.int .i64 ((3:Nat):Int))).setCell ⟨b.R,1,af⟩ (.int .i64 ((d0:Nat):Int))).setCell ⟨b.R,2,af⟩ (.int .i64 ((l:Nat):Int))).setCell ⟨b.R,3,af⟩ (.int .i64 ((m:Nat):Int))).setCell ⟨b.R,4,af⟩ (.int .i64 ((p:Nat):Int))).setCell ⟨b.R,5,af⟩ (.int .i64 ((t:Nat):Int))).setCell ⟨b.R,6,af⟩ (.int .i64 ((u:Nat):Int))).setCell ⟨b.R,7,af⟩ (.int .i64 ((0:Nat):Int))).setCell ⟨b.R,8,af⟩ (.int .i64 ((0:Nat):Int))).setCell ⟨b.R,9,af⟩ (.int .i64 ((na:Nat):Int))).setCell ⟨b.R,10,af⟩ (.int .u8 ((90:Nat):Int))),?_,?_,oQ d _ _ _ _ _ _ _ _ _ _ _⟩
      ·simp only[Mix.jA,iR.jg,aB,ax,ay,az]
       go_simp
      ·refine⟨IM (aJ b.R X) (aP _) _ _ _ _ _ _ _ _ _ _ _,λk aL aG=>IL _ _ _ _ _ _ _ _ _ _ _ iE,λ_=>oQ d _ _ _ _ _ _ _ _ _ _ _,λ_=>.inr (oQ d _ _ _ _ _ _ _ _ _ _ _)⟩
     |6,_=>injection f with f;subst f;have bm:=hd 4 (by simp[pY]);simp only[nO]at bm;refine .inl (.inr ⟨rfl,.inl ⟨.bool (((k+1:Nat):Int)==(s.size:Int)),X,?_,jK.of G (aJ _ _),iR.upd_same _ _ _⟩⟩);simp only[Mix.jA,iR.jg,aB,ax,ay,az];go_simp
    case hN=>
     intro x X g hF;have ad:=hF 5 iG;have ai:=hF 6 iG;simp only[nO]at ad ai;have ak:=aj (iJ ai (iJ g ad));have aM:=aj B.1;clear hF g ad ai;simp only[Mix.jA,iR.jg,aB,ax,ay,az,ak.1.1];go_wp2
     (try simp only[Exit.inBlock,Exit.then])
     refine a3.1 _ _ (aN (pI rfl _ _ b.R _ _ _ _ rfl ak.1.2.2 aC rfl uB) rfl ?_);refine⟨aM.1.bl.trans (ak.1.2.1.1.mono (by have:=aM.1.lo;have:=b.h;omega)),?_⟩;have D:=av.1;rw[a5.1.2]at D;by_cases he:k+1=s.size
     ·rw[gY he]at D
      rw[D];have al:(((k+1:Nat):Int)==(s.size:Int))=aK:=(by rw[he];simp);rw[al]
      rfl
     ·rw[gZ he]at D
      rw[D];have al:(((k+1:Nat):Int)==(s.size:Int))=au:=iI;rw[al];exact⟨_,_,_,_,_,_,_,_,_,_,_,rfl⟩
   have fX:((x:Int)==90)=au:=iI;have eI:=aj (show k+1<=s.size from O);by_cases aR:x=43\/x=45
   case neg=>
    have fY:((x:Int)==43)=au:=iI;have f0:((x:Int)==45)=au:=iI;have f1:((x:Int)!=43)=aK:=iI;have f2:((x:Int)!=45)=aK:=iI;have am:=aj (ao.1.trans (QP E.1.2.2 E.1.1 (λh=>bd (by rw[<-E.1.2.1,h];rfl)) (λh=>aR (h.imp (λh=>by rw[<-E.1.2.1,h];rfl) (λh=>by rw[<-E.1.2.1,h];rfl)))));have H:=aj (B.1.fin (nY.jX _ _ _ _ rfl));clear aR bd
    go_upto_region 35 with fail
    obtain⟨eJ,eK,eL,eM,eN,eO,eR,eS,eT,eV,eW,ar,eZ,e0,e1,e2,e3,e4,e5,e8,e9,fa,fb,fc,fd,fe,ff,fg,fh,fi,fj,fk,fl,fm,fn,fo,fp,fq,fr,fs,ft,fu,fv,fw,fx⟩:=yA H.1.M H.1.len H.1.R;clear ar;go_wp2
    (try simp only[Exit.inBlock,Exit.then])
    refine a3.1 _ _ (aN (pI rfl _ _ b.R _ _ _ _ rfl (oQ H.1.R _ _ _ _ _ _ _ _ _ _ _) aC rfl uB) rfl ?_);exact⟨xq H.1.bl (by have:=b.h;have:=H.1.lo;omega) _ _ _ _ _ _ _ _ _ _ _,by rw[am.1];exact⟨_,_,_,_,_,_,_,_,_,_,_,rfl⟩⟩
   have fy:∀c:UInt8,c.toNat=x->c=43\/c=45:=λc hc=>aR.imp (λh=>aO.1 (by rw[hc,h];rfl)) (λh=>aO.1 (by rw[hc,h];rfl))
   have bq:=aj (fy _ E.1.2.1);have bo:=eI;have an:=aj (d1.1 ap b (k+1) (jX (3) [d0,l,m,p,t,u,0,0] (na) (x)) 2 2 7 2 58 B.1 bo.1 iG iG iG iG (by show _<=11;decide) (by show 11<=_;decide));rw[show(((58:UInt8).toNat:Nat):Int)=58 from rfl]at an;unfold uu at an;cases hf:jW s.data.toList 2 58 2 0 (k+1) []
   case none=>
    rw[hf]at an;have am:=aj (ao.1.trans (QQ E.1.2.2 E.1.1 bq.1 hf));clear hf;rcases aR with rfl|rfl
    all_goals
     go_upto_region 35 with(go_at_call 186;refine an.1.mono ?_;rintro e br ⟨a0,rfl,vs,a7,a1⟩;have H:=aj (B.1.fin2 a0 a1 (nY.jX _ _ _ _ rfl) iE);clear a0 a7 a1)
     obtain⟨eJ,eK,eL,eM,eN,eO,eR,eS,eT,eV,eW,ar,eZ,e0,e1,e2,e3,e4,e5,e8,e9,fa,fb,fc,fd,fe,ff,fg,fh,fi,fj,fk,fl,fm,fn,fo,fp,fq,fr,fs,ft,fu,fv,fw,fx⟩:=yA H.1.M H.1.len H.1.R;clear ar;go_wp2
     (try simp only[Exit.inBlock,Exit.then])
     refine a3.1 _ _ (aN (pI rfl _ _ b.R _ _ _ _ rfl (oQ H.1.R _ _ _ _ _ _ _ _ _ _ _) aC rfl uB) rfl ?_);exact⟨xq H.1.bl (by have:=b.h;have:=H.1.lo;omega) _ _ _ _ _ _ _ _ _ _ _,by rw[am.1];exact⟨_,_,_,_,_,_,_,_,_,_,_,rfl⟩⟩
   case' some r=>
    obtain⟨vs,bs⟩:=r;rw[hf]at an;have am:=aj (ao.1.trans (QR E.1.2.2 E.1.1 bq.1 hf));clear hf;rw[E.1.2.1]at am;rcases aR with rfl|rfl
    all_goals
     go_upto_region 36 with(go_at_call 186;refine an.1.mono ?_;rintro e br ⟨a0,a7,bt,rfl,bv,a1⟩;have a2:=aj (iJ a0 (iJ a7 (iJ bt (iJ bv a1))));clear a0 a7 bt bv a1)
     obtain⟨bw,f7,rfl⟩:=two a2.1.2.1;have bx:=aj (B.1.zC a2.1.1 a2.1.2.2.2.1 a2.1.2.2.2.2);clear a2 B an;obtain⟨aw,aD⟩:=iD br;subst aD;obtain⟨y,e6,e7,z,v,L,N⟩:∃y e6 e7 z v:Nat,St w s b v (jX y [d0,l,m,p,t,u,e6,e7] na z) aw/\aq=if v=s.data.toList.length then ah ⟨y,[d0,l,m,p,t,u,e6,e7],na,z⟩else af:=by first|exact⟨3,bw,f7,43,bs,bx.1,am.1⟩|exact⟨3,bw,f7,45,bs,bx.1,am.1⟩
     have J:=aj L;have ba:=aj N;clear L N
 all_goals
  refine Mix.Eh 150 5 3 pY (jK b.R (.cells #[.int .i64 0,.int .i64 0,.int .i64 0,.int .i64 0,.int .i64 0,.int .i64 0,.int .i64 0,.int .i64 0,.int .i64 0,.int .i64 0,.int .u8 0] 227) (.cells #[.int .i64 ((y:Nat):Int),.int .i64 ((d0:Nat):Int),.int .i64 ((l:Nat):Int),.int .i64 ((m:Nat):Int),.int .i64 ((p:Nat):Int),.int .i64 ((t:Nat):Int),.int .i64 ((u:Nat):Int),.int .i64 ((e6:Nat):Int),.int .i64 ((e7:Nat):Int),.int .i64 ((na:Nat):Int),.int .u8 ((z:Nat):Int)] 227)) (nO s #[.int .i64 ((y:Nat):Int),.int .i64 ((d0:Nat):Int),.int .i64 ((l:Nat):Int),.int .i64 ((m:Nat):Int),.int .i64 ((p:Nat):Int),.int .i64 ((t:Nat):Int),.int .i64 ((u:Nat):Int),.int .i64 ((e6:Nat):Int),.int .i64 ((e7:Nat):Int),.int .i64 ((na:Nat):Int),.int .u8 ((z:Nat):Int)] (v) b.R) iF rfl (.inl iG) iF iF iF iF (jK.of (by have:=J.1.sz;have:=b.h;omega) ⟨rfl,rfl,rfl,aP _,λ_ _=>rfl⟩) (λ_ _ _ h k=>h.trans k) (λi x be X bf hi hx bg h=>nO.keep i x be X bf hi hx bg h) ?z0 ?hN
  case z0=>
   intro i o x X hi f g hd;have j:=(g.2.1 b.M (by have:=b.h;omega) (by have:=J.1.sz;have:=b.h;omega)).trans J.1.M;have aE:=(g.2.1 b.A (by have:=b.h;omega) (by have:=J.1.sz;have:=b.h;omega)).trans J.1.A;have aF:=(g.1.block b.S (by have:=b.h;omega)).trans J.1.S;have bj:=g.2.2.2 (.inl J.1.R);have G:b.R<X.heap.size:=aQ (by have:=J.1.sz;have:=b.h;omega) g.1.size;have a9:=iK j 0 (.int .i64 ((y:Nat):Int));have d8:=iK j 1 (.int .i64 ((d0:Nat):Int));have d9:=iK j 2 (.int .i64 ((l:Nat):Int));have ea:=iK j 3 (.int .i64 ((m:Nat):Int));have eb:=iK j 4 (.int .i64 ((p:Nat):Int));have ec:=iK j 5 (.int .i64 ((t:Nat):Int));have ee:=iK j 6 (.int .i64 ((u:Nat):Int));have ef:=iK j 7 (.int .i64 ((e6:Nat):Int));have eg:=iK j 8 (.int .i64 ((e7:Nat):Int));have eh:=iK j 9 (.int .i64 ((na:Nat):Int));have a6:=iK j 10 (.int .u8 ((z:Nat):Int));have ca:=iK aE 0 (.int .i64 ((v:Nat):Int));have a8:=iK aF 0 (.string s);clear j aE aF g
   match i,hi with
   |0,_=>injection f with f;subst f;refine .inl (.inr ⟨rfl,.inl ⟨.agg #[.int .i64 ((y:Nat):Int),.int .i64 ((d0:Nat):Int),.int .i64 ((l:Nat):Int),.int .i64 ((m:Nat):Int),.int .i64 ((p:Nat):Int),.int .i64 ((t:Nat):Int),.int .i64 ((u:Nat):Int),.int .i64 ((e6:Nat):Int),.int .i64 ((e7:Nat):Int),.int .i64 ((na:Nat):Int),.int .u8 ((z:Nat):Int)],X,?_,jK.of G (aJ _ _),iR.upd_same _ _ _⟩⟩);simp only[Mix.jA,iR.jg,aB,ax,ay,az];go_simp
   |1,_=>injection f with f;subst f;refine .inl (.inr ⟨rfl,.inl ⟨.int .i64 ((v:Nat):Int),X,?_,jK.of G (aJ _ _),iR.upd_same _ _ _⟩⟩);simp only[Mix.jA,iR.jg,aB,ax,ay,az];go_simp
   |2,_=>injection f with f;subst f;refine .inl (.inr ⟨rfl,.inl ⟨.string s,X,?_,jK.of G (aJ _ _),iR.upd_same _ _ _⟩⟩);simp only[Mix.jA,iR.jg,aB,ax,ay,az];go_simp
   |3,_=>injection f with f;subst f;have aG:=hd 2 (by simp[pY]);simp only[nO]at aG;refine .inl (.inr ⟨rfl,.inl ⟨.int .i64 (s.size:Int),X,?_,jK.of G (aJ _ _),iR.upd_same _ _ _⟩⟩);simp only[Mix.jA,iR.jg,aB,ax,ay,az];go_simp
   |4,_=>injection f with f;subst f;have aL:=hd 1 (by simp[pY]);have P:=hd 3 (by simp[pY]);simp only[nO]at aL P;refine .inl (.inr ⟨rfl,.inl ⟨.bool (((v:Nat):Int)==(s.size:Int)),X,?_,jK.of G (aJ _ _),iR.upd_same _ _ _⟩⟩);simp only[Mix.jA,iR.jg,aB,ax,ay,az];go_simp
   |5,_=>
    injection f with f;subst f;have bk:=hd 0 (by simp[pY]);simp only[nO]at bk
    have d:∃T r1 r2 U V W Y Z aa ab ac,X.heap[b.R]?=ah (.cells #[T,r1,r2,U,V,W,Y,Z,aa,ab,ac] 227):=by
     rcases bj with h|h
     ·exact⟨_,_,_,_,_,_,_,_,_,_,_,h⟩
     ·exact⟨_,_,_,_,_,_,_,_,_,_,_,h⟩
    obtain⟨T,r1,r2,U,V,W,Y,Z,aa,ab,ac,d⟩:=d;have ei:=iK d 0 T;have ej:=ag d 0;have ek:=iK d 1 r1;have el:=ag d 1;have em:=iK d 2 r2;have en:=ag d 2;have eo:=iK d 3 U;have ep:=ag d 3;have eq:=iK d 4 V;have er:=ag d 4;have es:=iK d 5 W;have et:=ag d 5;have ev:=iK d 6 Y;have ew:=ag d 6;have ex:=iK d 7 Z;have ey:=ag d 7;have ez:=iK d 8 aa;have eA:=ag d 8;have eB:=iK d 9 ab;have eC:=ag d 9;have eD:=iK d 10 ac;have eE:=ag d 10;refine .inr ⟨rfl,rfl,(((((((((((X.setCell ⟨b.R,0,af⟩ (.int .i64 ((y:Nat):Int))).setCell ⟨b.R,1,af⟩ (.int .i64 ((d0:Nat):Int))).setCell ⟨b.R,2,af⟩ (.int .i64 ((l:Nat):Int))).setCell ⟨b.R,3,af⟩ (.int .i64 ((m:Nat):Int))).setCell ⟨b.R,4,af⟩ (.int .i64 ((p:Nat):Int))).setCell ⟨b.R,5,af⟩ (.int .i64 ((t:Nat):Int))).setCell ⟨b.R,6,af⟩ (.int .i64 ((u:Nat):Int))).setCell ⟨b.R,7,af⟩ (.int .i64 ((e6:Nat):Int))).setCell ⟨b.R,8,af⟩ (.int .i64 ((e7:Nat):Int))).setCell ⟨b.R,9,af⟩ (.int .i64 ((na:Nat):Int))).setCell ⟨b.R,10,af⟩ (.int .u8 ((z:Nat):Int))),?_,?_,oQ d _ _ _ _ _ _ _ _ _ _ _⟩
    ·simp only[Mix.jA,iR.jg,aB,ax,ay,az]
     go_simp
    ·refine⟨IM (aJ b.R X) (aP _) _ _ _ _ _ _ _ _ _ _ _,λk aL aG=>IL _ _ _ _ _ _ _ _ _ _ _ iE,λ_=>oQ d _ _ _ _ _ _ _ _ _ _ _,λ_=>.inr (oQ d _ _ _ _ _ _ _ _ _ _ _)⟩
   |6,_=>injection f with f;subst f;have bm:=hd 4 (by simp[pY]);simp only[nO]at bm;refine .inl (.inr ⟨rfl,.inl ⟨.bool (((v:Nat):Int)==(s.size:Int)),X,?_,jK.of G (aJ _ _),iR.upd_same _ _ _⟩⟩);simp only[Mix.jA,iR.jg,aB,ax,ay,az];go_simp
  case hN=>
   intro x X g hF;have ad:=hF 5 iG;have ai:=hF 6 iG;simp only[nO]at ad ai;have ak:=aj (iJ ai (iJ g ad));have aM:=aj J.1;clear hF g ad ai;simp only[Mix.jA,iR.jg,aB,ax,ay,az,ak.1.1];go_wp2
   (try simp only[Exit.inBlock,Exit.then])
   refine a3.1 _ _ (aN (pI rfl _ _ b.R _ _ _ _ rfl ak.1.2.2 aC rfl uB) rfl ?_);refine⟨aM.1.bl.trans (ak.1.2.1.1.mono (by have:=aM.1.lo;have:=b.h;omega)),?_⟩;have D:=ba.1;rw[a5.1.2]at D;by_cases he:v=s.size
   ·rw[gY he]at D
    rw[D];have al:(((v:Nat):Int)==(s.size:Int))=aK:=(by rw[he];simp);rw[al]
    rfl
   ·rw[gZ he]at D
    rw[D];have al:(((v:Nat):Int)==(s.size:Int))=au:=iI;rw[al];exact⟨_,_,_,_,_,_,_,_,_,_,_,rfl⟩
theorem QU (s:ByteArray)(hs:s.size<=1000000)(w:aI)(b:Bk)(D:Option Mo)(Q:Exit->Act->aI->Prop)(aM:PLift (∀a X,bodyPost aY bn (λe w'=>Below w.heap.size w w'/\yz D e) .ret a X->Q .ret a X))
  (sh d0 f g k:Nat){aR a0 a1 a2 a3 a4 a5 a6 a7 a8 a9 ba bb bc bd be bf bg bh bi bj bk bm bo bp bq br bs bt bv bw bx bA:aH}(X:aI)(cs:sh<=1)(O:k<=s.size)(E:St w s b k (jX (sh) [d0,f,g,0,0,0,0,0] (0) (0)) X)(ap:D=qI s.data.toList sh [d0,f,g] k):
  Code.wp aY (yB (Tryz.f156.body.getD .skip) [aK,aK,aK,aK,aK,aK]) Q {tmps:=#[.string s,.pointer (ah ⟨b.S,0,af⟩),.pointer (ah ⟨b.R,0,af⟩),.bool au,.pointer (ah ⟨b.M,0,af⟩),.pointer (ah ⟨b.A,0,af⟩),.pointer (ah ⟨b.F,0,af⟩),.func (.func 186) #[] #[.pointer (ah ⟨b.A,0,af⟩),.pointer (ah ⟨b.S,0,af⟩),.pointer (ah ⟨b.F,0,af⟩)],undef,.func (.func 185) #[] #[.pointer (ah ⟨b.A,0,af⟩),.pointer (ah ⟨b.S,0,af⟩)],.func (.func 186) #[] #[.pointer (ah ⟨b.A,0,af⟩),.pointer (ah ⟨b.S,0,af⟩),.pointer (ah ⟨b.F,0,af⟩)],aR,a0,a1,a2,a3,a4,a5,a6,a7,a8,a9,ba,bb,bc,bd,be,bf,bg,bh,bi,bj,bk,bm,bo,bp,bq,br,bs,bt,bv,bw,bx,bA,undef,undef,undef,undef,undef,undef,undef,undef,undef,undef,undef,undef,undef,undef,undef,undef,undef,undef,undef,undef,undef,undef,undef,undef,undef,undef,undef,undef,undef,undef,undef,undef,undef,undef,undef,undef,undef,undef,undef,undef,undef,undef,undef,undef,undef,undef,undef,undef,undef,undef,undef,undef,undef,undef,undef,undef,undef,undef,undef,undef,undef,undef,undef,undef,undef,undef,undef,undef,undef,undef,undef,undef,undef,undef,undef,undef,undef,undef,undef,undef,undef,undef,undef,undef,undef,undef,undef,undef,undef,undef,undef,undef,undef,undef,undef,undef,undef,undef,undef,undef,undef,undef,undef,undef,undef,undef,undef,undef,undef,undef,undef],defers:=[]} X:=by
 have fm:(s.size:Int)<=1000000:=iE
 have aq:=aj (iJ hs (show s.data.toList.length=s.size by simp))
 have ct:=aj (λ(X:aI) (b:Bk) (k:Nat) (C:List aH) (n first off cap:Nat) (sep:UInt8) (E:St w s b k C X) (O:k<=s.size) (hn:n<=3) (hf:first<=4) (hc:n<=cap) (cv:cap<=8) (Z:off+n<=C.length) (cw:C.length<=20)=>En s n first k b.A b.S b.M b.F off cap sep C X hn hf hs O hc cv Z cw E.A E.S E.M E.F)
 have b7:=aj (λ(q:Nat) (h:q<s.size)=>show s.data.toList[q]?=ah (s[q]'h) by rw[aS (by simpa using h)];rfl)
 clear hs;dsimp only[yB,bn,Option.getD,if_true];have b8:=aj O;have bB:=aj ap;have bE:=aj E;have cx:(sh:Int)<=1:=iE
 have cy:(0:Int)<=(sh:Int):=iE
 clear O ap;have K:=aj (ct.1 X b (k) (jX (sh) [d0,f,g,0,0,0,0,0] (0) (0)) 3 2 4 5 58 E b8.1 iG iG iG iG (by show _<=11;decide) (by show 11<=_;decide));rw[show(((58:UInt8).toNat:Nat):Int)=58 from rfl]at K;clear E;unfold uu at K;cases hf:jW s.data.toList 2 58 3 0 k []with
 |none=>
  rw[hf]at K;have H:=aj (show D=af by rw[bB.1];unfold qI;rw[hf]);clear hf
  go_upto_region 15 with(go_at_call 186;refine K.1.mono ?_;rintro e aa ⟨ab,rfl,vs,ar,ac⟩;have m:=aj (bE.1.fin2 ab ac (nY.jX _ _ _ _ rfl) iE);clear ab ar ac)
  obtain⟨cz,cA,cB,cC,cD,cE,cF,cG,cH,cI,cJ,Z,cK,cL,cM,cN,cO,cP,cQ,cR,cS,cT,cU,cV,cW,cX,cY,c0,c1,c2,c3,c4,c5,c6,c7,c8,c9,da,db,dc,dd,de,df,dg,dj⟩:=yA m.1.M m.1.len m.1.R;clear Z;go_wp2
  (try simp only[Exit.inBlock,Exit.then])
  refine aM.1 _ _ (aN (pI rfl _ _ b.R _ _ _ _ rfl (oQ m.1.R _ _ _ _ _ _ _ _ _ _ _) aC rfl uB) rfl ?_);exact⟨xq m.1.bl (by have:=b.h;have:=m.1.lo;omega) _ _ _ _ _ _ _ _ _ _ _,by rw[H.1];exact⟨_,_,_,_,_,_,_,_,_,_,_,rfl⟩⟩
  |some r=>
  obtain⟨vs,d⟩:=r;rw[hf]at K;have ad:=aj (show D=(match vY s.data.toList d with|none=>af|some (na,dk)=>mO s.data.toList (sh+2) ([d0,f,g]++vs) na dk) by rw[bB.1];unfold qI;rw[hf]);clear hf bB
  go_upto_region 16 with(go_at_call 186;refine K.1.mono ?_;rintro e aa ⟨ab,ar,b9,rfl,cb,ac⟩;have P:=aj (iJ ab (iJ ar (iJ b9 (iJ cb ac))));clear ab ar b9 cb ac)
  obtain⟨o,t,u,rfl⟩:=three P.1.2.1;have av:PLift (St w s b d (jX (sh) [d0,f,g,o,t,u,0,0] (0) (0)) aa):=⟨bE.1.zC P.1.1 P.1.2.2.2.1 P.1.2.2.2.2⟩;have bL:=aj (show d<=s.size by have h:=P.1.2.2.1;rw[aq.1.2]at h;exact h);clear P bE K b8;have dl:=iK av.1.M 0 (.int .i64 ((sh:Nat):Int));have dp:=ag av.1.M 0
  go_upto_region 17 with fail
  rename_i dq cc fn fo;obtain⟨L,bM⟩:=iC (aa.setCell ⟨b.M,0,af⟩ (.int .i64 ((sh:Int)+2)));have J:PLift (St w s b d (jX (sh+2) [d0,f,g,o,t,u,0,0] (0) (0)) L):=⟨by rw[<-bM];exact av.1.zD 0 (.int .i64 ((sh:Int)+2))⟩;rw[bM];clear bM av dl dp;obtain⟨l,I⟩:=iC (sh+2);rw[I]at J ad;have dr:l<=3:=iE
  clear I cx cy cs
  have bN:∀(na k:Nat) {ds aR a0 a1 a2 a3 a4 a5 a6 a7 a8 a9 ba bb bc bd be bf bg bh bi bj bk bm bo bp bq br bs bt bv bw bx bA dt du dv dx dy dz dS dT d1 d2 d3 d4 d5 d6 d7 d8 d9 ea eb ec ee ef eg eh ei ej ek el em en eo ep eq er es et ev ew ex ey ez eA eB eC eD eE eI eJ eK eL eM eN eO eR eS eT eV eW eZ e0 e1 e2 e3 e4 e5 e6 e7:aH} (X:aI),k<=s.size->St w s b k (jX (l) [d0,f,g,o,t,u,0,0] (na) (0)) X->D=mO s.data.toList l [d0,f,g,o,t,u] na k->
    dq {tmps:=#[.string s,.pointer (ah ⟨b.S,0,af⟩),.pointer (ah ⟨b.R,0,af⟩),.bool au,.pointer (ah ⟨b.M,0,af⟩),.pointer (ah ⟨b.A,0,af⟩),.pointer (ah ⟨b.F,0,af⟩),.func (.func 186) #[] #[.pointer (ah ⟨b.A,0,af⟩),.pointer (ah ⟨b.S,0,af⟩),.pointer (ah ⟨b.F,0,af⟩)],ds,.func (.func 185) #[] #[.pointer (ah ⟨b.A,0,af⟩),.pointer (ah ⟨b.S,0,af⟩)],.func (.func 186) #[] #[.pointer (ah ⟨b.A,0,af⟩),.pointer (ah ⟨b.S,0,af⟩),.pointer (ah ⟨b.F,0,af⟩)],aR,a0,a1,a2,a3,a4,a5,a6,a7,a8,a9,ba,bb,bc,bd,be,bf,bg,bh,bi,bj,bk,bm,bo,bp,bq,br,bs,bt,bv,bw,bx,bA,dt,du,dv,dx,dy,dz,dS,dT,d1,d2,d3,d4,d5,d6,d7,d8,d9,ea,eb,ec,ee,ef,eg,eh,ei,ej,ek,el,em,en,eo,ep,eq,er,es,et,ev,ew,ex,ey,ez,eA,eB,eC,eD,eE,eI,eJ,eK,eL,eM,eN,eO,eR,eS,eT,eV,eW,eZ,e0,e1,e2,e3,e4,e5,e6,e7,undef,undef,undef,undef,undef,undef,undef,undef,undef,undef,undef,undef,undef,undef,undef,undef,undef,undef,undef,undef,undef,undef,undef,undef,undef,undef,undef,undef,undef,undef,undef,undef,undef,undef,undef,undef,undef,undef,undef,undef,undef,undef,undef,undef],defers:=[]} X:=λna k=>λX O E ap=>cc _ _ (QT s aq.1.1 w b D Q aM l d0 f g o t u dr na k X O E ap)
  clear cc;have aw:=iK J.1.S 0 (.string s);have ca:=iK J.1.A 0 (.int .i64 ((d:Nat):Int));have ai:=ag J.1.A 0;have fp:(d:Int)<=(s.size:Int):=by have:=bL.1;omega
  have fq:(0:Int)<=(d:Int):=iE
  by_cases ak:d<s.size
  ·have e8:(d:Int)<(s.size:Int):=iE
   obtain⟨c,hc⟩:∃c,s[d]'ak=c:=⟨_,rfl⟩
   have z:=b7.1 d ak;rw[hc]at z;obtain⟨x,hx⟩:∃x:Nat,c.toNat=x:=⟨_,rfl⟩;have fr:((s[d]'ak).toNat:Int)=(x:Int):=by rw[hc,hx]
   by_cases bO:x=46
   ·subst bO
    have cd:c=46:=aO.1 hx
    have ce:=aj (show vY s.data.toList d=if(jS s.data.toList 9 (d+1) 0).2 =d+1 then af else ah ((jS s.data.toList 9 (d+1) 0).1 *10^(9 - ((jS s.data.toList 9 (d+1) 0).2 - (d+1))),(jS s.data.toList 9 (d+1) 0).2) by unfold vY;rw[z,cd,gY rfl])
    have e9:=aj ak;clear cd hx z hc
    go_upto_region 20 with fail
    obtain⟨aD,bR⟩:=iC (L.setCell ⟨b.A,0,af⟩ (.int .i64 ((d:Int)+1)));have cf:PLift (St w s b (d+1) (jX (l) [d0,f,g,o,t,u,0,0] (0) (0)) aD):=⟨by rw[<-bR];exact J.1.zF (d+1)⟩;rw[bR];clear bR aw ca ai J
    go_loopw [8] (λbS wr=>∃(i na:Nat),bS=.int .i64 (i:Nat)/\i<=9/\na+1<=10^i/\d+1+i<=s.size/\St w s b (d+1+i) (jX (l) [d0,f,g,o,t,u,0,0] (na) (0)) wr/\jS s.data.toList (9 - i) (d+1+i) na=jS s.data.toList 9 (d+1) 0) (λbS _=>9 - (intOf bS).toNat)
    case atStart=>exact⟨0,0,rfl,iG,iG,e9.1,cf.1,rfl⟩
    case round=>
     clear cf aD;obtain⟨i,na,rfl,cg,ch,hp,G,B⟩:=hrel;have N:=aj G;have al:=aj (iJ cg (iJ ch hp));obtain⟨p,ci⟩:=iC (d+1+i);have T:=aj ci;rw[ci]at hp G B N al;have fs:(i:Int)<=9:=iE;have ft:(0:Int)<=(i:Int):=iE;have fu:(p:Int)<=(s.size:Int):=iE;have fv:(0:Int)<=(p:Int):=iE;have fa:10^i<=10^9:=bC iG cg
     have fw:(na:Int)<=1000000000:=by have:(10:Nat)^9=1000000000:=iG;omega
     have fx:(0:Int)<=(na:Int):=iE;have aw:=iK G.S 0 (.string s);have ca:=iK G.A 0 (.int .i64 ((p:Nat):Int));have ai:=ag G.A 0;have bX:=iK G.M 9 (.int .i64 ((na:Nat):Int));have b0:=ag G.M 9;clear G ch fa;by_cases hi:i<9
     case' neg=>have fb:¬(i:Int)<9:=iE;have am:=aj (show jS s.data.toList 9 (d+1) 0=(na,p) by rw[<-B,show 9 - i=0 by omega];rfl);clear B hi
     case' pos=>
      have fb:(i:Int)<9:=iE;by_cases an:p<s.size
      case' neg=>have fc:¬(p:Int)<(s.size:Int):=iE;have am:=aj (show jS s.data.toList 9 (d+1) 0=(na,p) by rw[<-B];exact QS (by rw[aq.1.2];omega));clear B hi an
      case' pos=>
       have fc:(p:Int)<(s.size:Int):=iE;obtain⟨c,hc⟩:∃c,s[p]'an=c:=⟨_,rfl⟩
       have z:=b7.1 p an;rw[hc]at z;obtain⟨y,hy⟩:∃y:Nat,c.toNat=y:=⟨_,rfl⟩;have fy:((s[p]'an).toNat:Int)=(y:Int):=by rw[hc,hy]
       have U:jZ c=(decide (48<=y)&&decide (y<=57)):=(by unfold jZ;rw[hy]);by_cases b1:48<=y
       case' neg=>have fd:¬(48:Int)<=(y:Int):=iE;have am:=aj (show jS s.data.toList 9 (d+1) 0=(na,p) by rw[<-B];exact Eo z (by rw[U];simp;omega));clear B z U hy hc hi b1
       case' pos=>
        have fd:(48:Int)<=(y:Int):=iE;by_cases cj:y<=57
        case' neg=>have fe:¬(y:Int)<=57:=iE;have am:=aj (show jS s.data.toList 9 (d+1) 0=(na,p) by rw[<-B];exact Eo z (by rw[U];simp;omega));clear B z U hy hc hi b1 cj
        case pos=>
         have fe:(y:Int)<=57:=iE
         have ff:=aj (show jS s.data.toList (9 - (i+1)) (p+1) (10*na+(y - 48))=jS s.data.toList 9 (d+1) 0 by rw[<-B,show 9 - i=(9 - (i+1))+1 by omega,IQ z (by rw[U];simp;omega),hy])
         have fz:IntKind.u8.wrap ((y:Int) - 48)=((y - 48:Nat):Int):=by rw[IntKind.wrap_u8];omega
         have fI:((y - 48:Nat):Int)<=9:=iE;have aE:=aj (iJ hi (iJ an (show 10*na+(y - 48)+1<=10^(i+1) by rw[bF];have:=al.1.2.1;omega)));clear B z U hy hc hi b1 cj
         go_upto_region 21 with fail
         refine Mix.IJ (aF:=?aF) 10 iF rfl iF iF iF iF iF iF rfl rfl rfl ?hA ?z0
         case hA=>
          intro ρ Y;have fL:=λx:iR.Grow ρ=>show x.w.cell? ⟨b.S,0,af⟩=ah (.string s)from ae (N.1.below (Y.trans (x.h.mono Y.size))).S 0
          have fN:=λx:iR.Grow ρ=>show x.w.cell? ⟨b.A,0,af⟩=ah (.int .i64 ((p:Nat):Int))from ae (N.1.below (Y.trans (x.h.mono Y.size))).A 0
          have fR:=λx:iR.Grow ρ=>show x.w.cell? ⟨b.M,9,af⟩=ah (.int .i64 ((na:Nat):Int))from ae (N.1.below (Y.trans (x.h.mono Y.size))).M 9
          dsimp only[List.take]
          repeat(go_big_quiet_step(fail))
          apply wpQuiet_nil;exact rfl
         case z0=>
          intro W ck;have aG:=aj (N.1.below ck);have v1:=iK aG.1.M 9 (.int .i64 ((na:Nat):Int));have v2:=ag aG.1.M 9;clear ck;refine⟨W.setCell ⟨b.M,9,af⟩ (.int .i64 (10*(na:Int)+((y - 48:Nat):Int))),?_,?_⟩
          ·go_simp
          have aL:PLift (St w s b p (jX l [d0,f,g,o,t,u,0,0] (10*na+(y - 48)) 0) (W.setCell ⟨b.M,9,af⟩ (.int .i64 (10*(na:Int)+((y - 48:Nat):Int))))):=⟨by have h:=aG.1.zD 9 (.int .i64 (10*(na:Int)+((y - 48:Nat):Int)));have e:(10*(na:Int)+((y - 48:Nat):Int))=((10*na+(y - 48):Nat):Int):=(by push_cast;rfl);rw[e]at h⊢;exact h⟩
          obtain⟨V,cl⟩:=iC (W.setCell ⟨b.M,9,af⟩ (.int .i64 (10*(na:Int)+((y - 48:Nat):Int))));rw[cl]at aL⊢;clear cl v1 v2 aG aw ca ai bX b0;have ca:=iK aL.1.A 0 (.int .i64 ((p:Nat):Int));have ai:=ag aL.1.A 0;go_wp2;go_roundw
          case rel=>
           refine⟨i+1,10*na+(y - 48),by go_num,aE.1.1,aE.1.2.2,?_,?_,?_⟩
           ·have cm:=aE.1.2.1;have ao:=T.1;omega
           ·have h:=aL.1.zF (p+1)
            rw[show d+1+(i+1)=p+1 by have ao:=T.1;omega];exact h
           ·rw[show d+1+(i+1)=p+1 by have ao:=T.1;omega]
            exact ff.1
          case measure=>have:=aE.1.1;simp[intOf];omega
     all_goals
      go_upto_region 24 with fail
      by_cases b2:i=0
      ·have fg:((i:Int)==0)=aK:=by rw[b2];rfl
       have H:=aj (show D=af by rw[ad.1,ce.1,am.1,gY (by have ao:=T.1;show p=_;omega)])
       have m:=aj (N.1.fin (nY.jX _ _ _ _ rfl));clear b2
       go_upto_region 25 with fail
       obtain⟨cz,cA,cB,cC,cD,cE,cF,cG,cH,cI,cJ,Z,cK,cL,cM,cN,cO,cP,cQ,cR,cS,cT,cU,cV,cW,cX,cY,c0,c1,c2,c3,c4,c5,c6,c7,c8,c9,da,db,dc,dd,de,df,dg,dj⟩:=yA m.1.M m.1.len m.1.R;clear Z;go_wp2
       (try simp only[Exit.inBlock,Exit.then])
       refine aM.1 _ _ (aN (pI rfl _ _ b.R _ _ _ _ rfl (oQ m.1.R _ _ _ _ _ _ _ _ _ _ _) aC rfl uB) rfl ?_);exact⟨xq m.1.bl (by have:=b.h;have:=m.1.lo;omega) _ _ _ _ _ _ _ _ _ _ _,by rw[H.1];exact⟨_,_,_,_,_,_,_,_,_,_,_,rfl⟩⟩
      ·have fg:((i:Int)==0)=au:=iI
       have H:=aj (show D=mO s.data.toList l [d0,f,g,o,t,u] (na*10^(9 - i)) p by
        rw[ad.1,ce.1,am.1,gZ (by have ao:=T.1;show ¬p=_;omega)];show mO s.data.toList l _ (na*10^(9 - (p - (d+1)))) p=_;rw[show p - (d+1)=i by have ao:=T.1;omega]
        rfl)
       have fh:=aj (show p<=s.size by have cm:=al.1.2.2;exact cm);clear b2
       go_upto_region 26 with fail
       go_loopw [8] (λb3 fi=>∃j:Nat,b3=.int .i64 (j:Nat)/\i<=j/\j<=9/\St w s b p (jX l [d0,f,g,o,t,u,0,0] (na*10^(j - i)) 0) fi) (λb3 _=>9 - (intOf b3).toNat)
       case atStart=>exact⟨i,rfl,aP _,al.1.1,by rw[Nat.sub_self,Nat.pow_zero,Nat.mul_one];exact N.1⟩
       case round=>
        clear aw ca ai bX b0;obtain⟨j,rfl,b4,b5,I⟩:=hrel;have cn:=aj (iJ b4 (iJ b5 I));obtain⟨v,hv⟩:=iC (na*10^(j - i))
        have fj:v<=10^9:=by rw[<-hv];refine bH (aX _ (Nat.le_of_lt (Nat.lt_of_succ_le al.1.2.1))) ?_;rw[<-bI];exact bC iG iE
        rw[hv]at I;have co:=aj hv;have bX:=(show _=ah (Value.int .i64 ((v:Nat):Int))from ae I.M 9);have b0:=ag I.M 9;have fS:(j:Int)<=9:=iE;have fT:(0:Int)<=(j:Int):=iE
        have fW:(v:Int)<=1000000000:=by have:(10:Nat)^9=1000000000:=iG;omega
        have fX:(0:Int)<=(v:Int):=iE;have cp:=aj I;clear I hv fj;by_cases b6:j<9
        ·have fk:(j:Int)<9:=iE
         have cq:=aj b6;clear b4 b5 b6;go_wp2;go_roundw
         case rel=>
          refine⟨j+1,by go_num,by have:=cn.1.1;omega,cq.1,?_⟩;have h:=cp.1.zD 9 (.int .i64 ((v:Int)*10))
          have e:((v:Int)*10)=((na*10^(j+1 - i):Nat):Int):=by
           rw[show j+1 - i=(j - i)+1 by have:=cn.1.1;omega,bF,<-bG,co.1]
           push_cast
           rfl
          rw[e]at h⊢;exact h
         case measure=>have:=cq.1;simp[intOf];omega
        ·have fk:¬(j:Int)<9:=iE
         have cr:j=9:=iE;have fl:PLift (St w s b p (jX l [d0,f,g,o,t,u,0,0] (na*10^(9 - i)) 0) _):=⟨by rw[<-cr,co.1];exact cp.1⟩;clear b4 b5 b6 cr;go_wp2;exact bN (na*10^(9 - i)) p _ fh.1 fl.1 H.1
   ·have fY:((x:Int)==46)=au:=iI
    have H:=aj (show D=mO s.data.toList l [d0,f,g,o,t,u] 0 d by
     rw[ad.1];unfold vY;rw[gZ (by rw[z];intro h;cases h;exact bO hx.symm)]
     rfl)
    clear bO z hx hc;go_wp2;exact bN 0 d _ bL.1 J.1 H.1
  ·have e8:¬(d:Int)<(s.size:Int):=iE
   have H:=aj (show D=mO s.data.toList l [d0,f,g,o,t,u] 0 d by
    rw[ad.1];unfold vY;rw[gZ (by rw[bz (by rw[aq.1.2];omega)];intro h;cases h)]
    rfl)
   clear ak;go_wp2;exact bN 0 d _ bL.1 J.1 H.1
theorem zG (s:ByteArray)(hs:s.size<=1000000)(w:aI):
  Calls aY 156 #[.string s] w λe w'=>Below w.heap.size w w'/\yz (rD s.data.toList) e:=by
 have cL:(s.size:Int)<=1000000:=iE
 have E:=aj (iJ hs (show s.data.toList.length=s.size by simp))
 have bo:=aj (λ(X:aI) (b:Bk) (k:Nat) (C:List aH) (n first off cap:Nat) (sep:UInt8) (G:St w s b k C X) (V:k<=s.size) (hn:n<=3) (hf:first<=4) (hc:n<=cap) (bp:cap<=8) (I:off+n<=C.length) (bq:C.length<=20)=>En s n first k b.A b.S b.M b.F off cap sep C X hn hf hs V hc bp I bq G.A G.S G.M G.F)
 have ai:=aj (λ(q:Nat) (h:q<s.size)=>show s.data.toList[q]?=ah (s[q]'h) by rw[aS (by simpa using h)];rfl)
 obtain⟨t,W⟩:=iC (rD s.data.toList);have Y:=aj W;rw[W];clear hs W;go_enter Tryz.func156,Tryz.ntmps156
 go_upto_region 5 with fail
 rename_i Z br ak cM cN;have O:PLift (∀a X,bodyPost aY bn (λe w'=>Below w.heap.size w w'/\yz t e) .ret a X->Z .ret a X):=⟨λ_ _ h=>h⟩;clear_value Z;obtain⟨W0,al⟩:=iC ((((((w.alloc (.cells #[.string s] 9)).alloc (.cells #[.int .i64 0,.int .i64 0,.int .i64 0,.int .i64 0,.int .i64 0,.int .i64 0,.int .i64 0,.int .i64 0,.int .i64 0,.int .i64 0,.int .u8 0] 227)).alloc (.cells #[.int .i64 0,.int .i64 0,.int .i64 0,.int .i64 0,.int .i64 0,.int .i64 0,.int .i64 0,.int .i64 0,.int .i64 0,.int .i64 0,.int .u8 0] 227)).alloc (.cells #[.int .i64 0] 3)).alloc (.cells #[.func (.func 185) #[] #[.pointer (ah ⟨w.heap.size+1+1+1,0,af⟩),.pointer (ah ⟨w.heap.size,0,af⟩)]] 250)));have J:=QN w (.cells #[.string s] 9) (.cells #[.int .i64 0,.int .i64 0,.int .i64 0,.int .i64 0,.int .i64 0,.int .i64 0,.int .i64 0,.int .i64 0,.int .i64 0,.int .i64 0,.int .u8 0] 227) (.cells #[.int .i64 0,.int .i64 0,.int .i64 0,.int .i64 0,.int .i64 0,.int .i64 0,.int .i64 0,.int .i64 0,.int .i64 0,.int .i64 0,.int .u8 0] 227) (.cells #[.int .i64 0] 3) (.cells #[.func (.func 185) #[] #[.pointer (ah ⟨w.heap.size+1+1+1,0,af⟩),.pointer (ah ⟨w.heap.size,0,af⟩)]] 250);rw[al]at J⊢;obtain⟨b,v⟩:∃b:Bk,b=⟨w.heap.size,w.heap.size+1,w.heap.size+1+1,w.heap.size+1+1+1,w.heap.size+1+1+1+1,⟨aU _,aU _,aU _,aU _⟩⟩:=⟨_,rfl⟩
 have p:PLift (St w s b 0 (jX (0) [0,0,0,0,0,0,0,0] (0) (0)) W0):=⟨by obtain⟨am,u,an,ao,J,bs,cO⟩:=J;rw[v];exact⟨u,an,ao,J,bs,am,by show w.heap.size+1+1+1+1<_;omega,aP _⟩⟩
 have e1:w.heap.size=b.S:=by rw[v]
 have ap:w.heap.size+1=b.R:=by rw[v]
 have e3:w.heap.size+1+1=b.M:=by rw[v]
 have aq:w.heap.size+1+1+1=b.A:=by rw[v]
 have e5:w.heap.size+1+1+1+1=b.F:=by rw[v]
 rw[e5,aq,e3,ap,e1];clear e1 ap e3 aq e5 v J al
 have z:∀(sh d0 m o k:Nat) {bt bv bw bx bA bB bE bL bM bN bO bR bS bX b0 b1 b2 b3 b4 b5 b6 b7 b8 b9 cb cc cd ce cf cg ch ci cj:aH} (X:aI),sh<=1->k<=s.size->St w s b k (jX (sh) [d0,m,o,0,0,0,0,0] (0) (0)) X->t=qI s.data.toList sh [d0,m,o] k->
   br {tmps:=#[.string s,.pointer (ah ⟨b.S,0,af⟩),.pointer (ah ⟨b.R,0,af⟩),.bool au,.pointer (ah ⟨b.M,0,af⟩),.pointer (ah ⟨b.A,0,af⟩),.pointer (ah ⟨b.F,0,af⟩),.func (.func 186) #[] #[.pointer (ah ⟨b.A,0,af⟩),.pointer (ah ⟨b.S,0,af⟩),.pointer (ah ⟨b.F,0,af⟩)],undef,.func (.func 185) #[] #[.pointer (ah ⟨b.A,0,af⟩),.pointer (ah ⟨b.S,0,af⟩)],.func (.func 186) #[] #[.pointer (ah ⟨b.A,0,af⟩),.pointer (ah ⟨b.S,0,af⟩),.pointer (ah ⟨b.F,0,af⟩)],bt,bv,bw,bx,bA,bB,bE,bL,bM,bN,bO,bR,bS,bX,b0,b1,b2,b3,b4,b5,b6,b7,b8,b9,cb,cc,cd,ce,cf,cg,ch,ci,cj,undef,undef,undef,undef,undef,undef,undef,undef,undef,undef,undef,undef,undef,undef,undef,undef,undef,undef,undef,undef,undef,undef,undef,undef,undef,undef,undef,undef,undef,undef,undef,undef,undef,undef,undef,undef,undef,undef,undef,undef,undef,undef,undef,undef,undef,undef,undef,undef,undef,undef,undef,undef,undef,undef,undef,undef,undef,undef,undef,undef,undef,undef,undef,undef,undef,undef,undef,undef,undef,undef,undef,undef,undef,undef,undef,undef,undef,undef,undef,undef,undef,undef,undef,undef,undef,undef,undef,undef,undef,undef,undef,undef,undef,undef,undef,undef,undef,undef,undef,undef,undef,undef,undef,undef,undef,undef,undef,undef,undef,undef,undef],defers:=[]} X:=λsh d0 m o k=>λX ck V G cl=>ak _ _ (QU s E.1.1 w b t Z O sh d0 m o k X ck V G cl)
 clear ak;have ar:=iK p.1.S 0 (.string s);have ca:=iK p.1.A 0 (.int .i64 ((0:Nat):Int));have av:=ag p.1.A 0;by_cases u:2<s.size
 ·have cm:(2:Int)<(s.size:Int):=iE
  obtain⟨c,hc⟩:∃c,s[2]'u=c:=⟨_,rfl⟩
  have j:=ai.1 2 u;rw[hc]at j;obtain⟨x,hx⟩:∃x:Nat,c.toNat=x:=⟨_,rfl⟩;have cP:((s[2]'u).toNat:Int)=(x:Int):=by rw[hc,hx]
  by_cases aa:x=58
  ·subst aa
   have i:=aj (show t=qI s.data.toList 0 [0,0,0] 0 by rw[<-Y.1];unfold rD;rw[gZ (λh=>h.2 (by rw[j];exact ig ah (aO.1 hx)))])
   clear j hx hc;go_wp2;exact z 0 0 0 0 0 _ (aT _) (aT _) p.1 i.1
  ·have cQ:((x:Int)==58)=au:=iI
   have cR:((x:Int)!=58)=aK:=iI
   have ab:=aj (show t=(match jW s.data.toList 4 45 3 0 0 []with
    |none=>af
    |some (d,k)=>if k=s.data.toList.length then ah ⟨1,d++[0,0,0,0,0],0,0⟩
     else if s.data.toList[k]?=ah 84\/s.data.toList[k]?=ah 32 then qI s.data.toList 1 d (k+1)else af) by
    rw[<-Y.1];unfold rD;rw[gY ⟨by rw[E.1.2];exact u,by rw[j];intro h;cases h;exact aa hx.symm⟩])
   have aw:=aj (aT s.size);clear j hx hc aa;have B:=aj (bo.1 W0 b (0) (jX (0) [0,0,0,0,0,0,0,0] (0) (0)) 3 4 1 8 45 p.1 aw.1 iG iG iG iG (by show _<=11;decide) (by show 11<=_;decide));rw[show(((45:UInt8).toNat:Nat):Int)=45 from rfl]at B;unfold uu at B;cases hf:jW s.data.toList 4 45 3 0 0 []with
   |none=>
    rw[hf]at B;have i:=aj (show t=af by rw[ab.1,hf]);clear hf z
    go_upto_region 7 with(go_at_call 186;refine B.1.mono ?_;rintro e K ⟨L,rfl,vs,P,N⟩;have l:=aj (p.1.fin2 L N (nY.jX _ _ _ _ rfl) iE);clear L P N)
    obtain⟨cn,co,cp,cq,cr,cs,ct,cv,cw,cx,cy,I,cz,cA,cB,cC,cD,cE,cF,cG,cH,cI,cJ,aD,aE,aF,aG,aL,aM,aR,a0,a1,a2,a3,a4,a5,a6,a7,a8,a9,ba,bb,bc,bd,be⟩:=yA l.1.M l.1.len l.1.R;clear I;go_wp2
    (try simp only[Exit.inBlock,Exit.then])
    refine O.1 _ _ (aN (pI rfl _ _ b.R _ _ _ _ rfl (oQ l.1.R _ _ _ _ _ _ _ _ _ _ _) aC rfl uB) rfl ?_);exact⟨xq l.1.bl (by have:=b.h;have:=l.1.lo;omega) _ _ _ _ _ _ _ _ _ _ _,by rw[i.1];exact⟨_,_,_,_,_,_,_,_,_,_,_,rfl⟩⟩
   |some r=>
    obtain⟨vs,k⟩:=r;rw[hf]at B
    have bf:=aj (show t=(if k=s.data.toList.length then ah ⟨1,vs++[0,0,0,0,0],0,0⟩
     else if s.data.toList[k]?=ah 84\/s.data.toList[k]?=ah 32 then qI s.data.toList 1 vs (k+1)else af) by rw[ab.1,hf])
    clear hf ab
    go_upto_region 8 with(go_at_call 186;refine B.1.mono ?_;rintro e K ⟨L,P,bg,rfl,bh,N⟩;have H:=aj (iJ L (iJ P (iJ bg (iJ bh N))));clear L P bg bh N)
    obtain⟨d0,m,o,rfl⟩:=three H.1.2.1;have Q:PLift (St w s b k (jX (0) [d0,m,o,0,0,0,0,0] (0) (0)) K):=⟨p.1.zC H.1.1 H.1.2.2.2.1 H.1.2.2.2.2⟩;have bi:=aj (show k<=s.size by have h:=H.1.2.2.1;rw[E.1.2]at h;exact h);clear H p B aw ar ca av;have bj:=iK Q.1.M 0 (.int .i64 ((0:Nat):Int));have bk:=ag Q.1.M 0
    go_upto_region 9 with fail
    obtain⟨g,ac⟩:=iC (K.setCell ⟨b.M,0,af⟩ (.int .i64 1));have f:PLift (St w s b k (jX (1) [d0,m,o,0,0,0,0,0] (0) (0)) g):=⟨by rw[<-ac];exact Q.1.zD 0 (.int .i64 1)⟩;rw[ac];clear ac Q bj bk;have ar:=iK f.1.S 0 (.string s);have ca:=iK f.1.A 0 (.int .i64 ((k:Nat):Int));have av:=ag f.1.A 0;have cS:(k:Int)<=(s.size:Int):=(by have:=bi.1;omega);have cT:(0:Int)<=(k:Int):=iE;by_cases D:k=s.size
    ·have cK:((k:Int)==(s.size:Int))=aK:=by rw[D];simp
     have i:=aj (bf.1.trans (gY (by rw[E.1.2];exact D)));clear D z
     go_upto_region 10 with fail
     have bj:=iK f.1.M 0 (.int .i64 ((1:Nat):Int));have bk:=ag f.1.M 0;have cU:=iK f.1.M 1 (.int .i64 ((d0:Nat):Int));have cV:=ag f.1.M 1;have cW:=iK f.1.M 2 (.int .i64 ((m:Nat):Int));have cX:=ag f.1.M 2;have cY:=iK f.1.M 3 (.int .i64 ((o:Nat):Int));have c0:=ag f.1.M 3;have c1:=iK f.1.M 4 (.int .i64 ((0:Nat):Int));have c2:=ag f.1.M 4;have c3:=iK f.1.M 5 (.int .i64 ((0:Nat):Int));have c4:=ag f.1.M 5;have c5:=iK f.1.M 6 (.int .i64 ((0:Nat):Int));have c6:=ag f.1.M 6;have c7:=iK f.1.M 7 (.int .i64 ((0:Nat):Int));have c8:=ag f.1.M 7;have c9:=iK f.1.M 8 (.int .i64 ((0:Nat):Int));have da:=ag f.1.M 8;have db:=iK f.1.M 9 (.int .i64 ((0:Nat):Int));have dc:=ag f.1.M 9;have dd:=iK f.1.M 10 (.int .u8 ((0:Nat):Int));have de:=ag f.1.M 10;have aD:=iK f.1.R 0 (.int .i64 0);have a4:=ag f.1.R 0;have aE:=iK f.1.R 1 (.int .i64 0);have a5:=ag f.1.R 1;have aF:=iK f.1.R 2 (.int .i64 0);have a6:=ag f.1.R 2;have aG:=iK f.1.R 3 (.int .i64 0);have a7:=ag f.1.R 3;have aL:=iK f.1.R 4 (.int .i64 0);have a8:=ag f.1.R 4;have aM:=iK f.1.R 5 (.int .i64 0);have a9:=ag f.1.R 5;have aR:=iK f.1.R 6 (.int .i64 0);have ba:=ag f.1.R 6;have a0:=iK f.1.R 7 (.int .i64 0);have bb:=ag f.1.R 7;have a1:=iK f.1.R 8 (.int .i64 0);have bc:=ag f.1.R 8;have a2:=iK f.1.R 9 (.int .i64 0);have bd:=ag f.1.R 9;have a3:=iK f.1.R 10 (.int .u8 0);have be:=ag f.1.R 10;go_wp2
     (try simp only[Exit.inBlock,Exit.then])
     refine O.1 _ _ (aN (pI rfl _ _ b.R _ _ _ _ rfl (oQ f.1.R _ _ _ _ _ _ _ _ _ _ _) aC rfl uB) rfl ?_);exact⟨xq f.1.bl (by have:=b.h;have:=f.1.lo;omega) _ _ _ _ _ _ _ _ _ _ _,by rw[i.1];rfl⟩
    ·have cK:((k:Int)==(s.size:Int))=au:=iI
     have i:=aj (bf.1.trans (gZ (by rw[E.1.2];exact D)));have T:k<s.size:=(by have:=bi.1;omega);have df:(k:Int)<(s.size:Int):=iE;obtain⟨c,hc⟩:∃c,s[k]'T=c:=⟨_,rfl⟩
     have j:=ai.1 k T;rw[hc]at j;obtain⟨y,hy⟩:∃y:Nat,c.toNat=y:=⟨_,rfl⟩;have dg:((s[k]'T).toNat:Int)=(y:Int):=by rw[hc,hy]
     have bm:=aj T;by_cases U:y=84
     ·subst U
      have i:=aj (i.1.trans (gY (by rw[j];exact .inl (ig ah (aO.1 hy)))));clear j hy hc D;go_wp2;exact z 1 d0 m o (k+1) _ (aP _) bm.1 (f.1.zF (k+1)) i.1
     ·by_cases ad:y=32
      ·subst ad
       have i:=aj (i.1.trans (gY (by rw[j];exact .inr (ig ah (aO.1 hy)))));clear j hy hc D U;go_wp2;exact z 1 d0 m o (k+1) _ (aP _) bm.1 (f.1.zF (k+1)) i.1
      ·have am:((y:Int)==84)=au:=iI
       have dj:((y:Int)!=84)=aK:=iI;have an:((y:Int)==32)=au:=iI;have ao:((y:Int)!=32)=aK:=iI
       have i:=aj (i.1.trans (gZ (by
        rw[j];rintro(h|h);· cases h;exact U hy.symm
        ·cases h;exact ad hy.symm)))
       have l:=aj (f.1.fin (nY.jX _ _ _ _ rfl));clear j hy hc D U ad z
       go_upto_region 12 with fail
       obtain⟨cn,co,cp,cq,cr,cs,ct,cv,cw,cx,cy,I,cz,cA,cB,cC,cD,cE,cF,cG,cH,cI,cJ,aD,aE,aF,aG,aL,aM,aR,a0,a1,a2,a3,a4,a5,a6,a7,a8,a9,ba,bb,bc,bd,be⟩:=yA l.1.M l.1.len l.1.R;clear I;go_wp2
       (try simp only[Exit.inBlock,Exit.then])
       refine O.1 _ _ (aN (pI rfl _ _ b.R _ _ _ _ rfl (oQ l.1.R _ _ _ _ _ _ _ _ _ _ _) aC rfl uB) rfl ?_);exact⟨xq l.1.bl (by have:=b.h;have:=l.1.lo;omega) _ _ _ _ _ _ _ _ _ _ _,by rw[i.1];exact⟨_,_,_,_,_,_,_,_,_,_,_,rfl⟩⟩
 ·have cm:¬(2:Int)<(s.size:Int):=iE
  have i:=aj (show t=qI s.data.toList 0 [0,0,0] 0 by rw[<-Y.1];unfold rD;rw[gZ (λh=>u (by rw[<-E.1.2];exact h.1))])
  clear u;go_wp2;exact z 0 0 0 0 0 _ (aT _) (aT _) p.1 i.1
theorem BH {l:List UInt8}{first:Nat}{sep:UInt8}:∀n i k vs ws k',jW l first sep n i k vs=ah (ws,k')->∃us,ws=vs++us/\us.length=n/\∀j u,us[j]?=ah u->u+1<=10^(if i+j=0 then first else 2)
 |0,i,k,vs,ws,k',h=>by simp only[jW,aZ,Prod.mk.injEq]at h;exact⟨[],by simp[h.1],rfl,λj u a=>by simp at a⟩
 |n+1,i,k,vs,ws,k',h=>by
  unfold jW at h;split at h
  ·cases h
  ·rename_i m o
   split at h
   ·cases h
   ·rename_i v c hv
    obtain⟨us,d,e,f⟩:=BH n (i+1) c (vs++[v]) ws k' h;have g:=(BA _ _ _ _ _ _ hv).1;refine⟨v::us,by rw[d];simp,by simp[e],λj u a=>?_⟩;cases j with
    |zero=>simp only[List.getElem?_cons_zero,aZ]at a;subst a;simpa using g
    |succ j=>have b:=f j u (by simpa using a);rw[show i+1+j=i+(j+1) by omega]at b;exact b
theorem IU {l:List UInt8}:∀n k na,(jS l n k na).1 +1<=(na+1)*10^((jS l n k na).2 - k)/\k<=(jS l n k na).2 /\(jS l n k na).2 <=k+n
 |0,k,na=>by simp[jS]
 |n+1,k,na=>by
  cases hc:l[k]? with
  |none=>have e:jS l (n+1) k na=(na,k):=(by unfold jS;rw[hc]);rw[e];simp
  |some c=>
   cases hd:jZ c with
   |false=>have e:=Eo (n:=n+1) (na:=na) hc hd;rw[e];simp
   |true=>
    have e:=IQ (n:=n) (na:=na) hc hd;rw[e];obtain⟨a,b,d⟩:=IU (l:=l) n (k+1) (10*na+(c.toNat - 48));refine⟨?_,iE,iE⟩
    have f:c.toNat - 48<=9:=by unfold jZ at hd;simp only[Bool.and_eq_true,decide_eq_true_eq]at hd;omega
    refine bH a ?_;rw[show(jS l n (k+1) (10*na+(c.toNat - 48))).2 - k=((jS l n (k+1) (10*na+(c.toNat - 48))).2 - (k+1))+1 by omega,bF,Nat.mul_comm (10^_) 10,<-bG];exact aX _ iE
theorem QV {l:List UInt8}{k na c:Nat}(h:vY l k=ah (na,c)):na<=999999999:=by
 unfold vY at h;split at h
 ·split at h
  ·cases h
  ·simp only[aZ,Prod.mk.injEq]at h
   obtain⟨b,f,g⟩:=IU (l:=l) 9 (k+1) 0;obtain⟨rfl,rfl⟩:=h;have d:(jS l 9 (k+1) 0).2 - (k+1)<=9:=iE;generalize(jS l 9 (k+1) 0).1 =a at b⊢;generalize(jS l 9 (k+1) 0).2 - (k+1)=j at b d⊢;have e:(a+1)*10^(9 - j)<=(10^j)*10^(9 - j):=aX _ (by simpa using b);rw[<-bI,show j+(9 - j)=9 by omega,Nat.add_mul]at e;have i:0<10^(9 - j):=Nat.pow_pos iG;have m:(10:Nat)^9=1000000000:=iG;omega
 ·cases h
  decide
def Ep (m:Mo):Prop:=∃a b c d e g h f7,m.f=[a,b,c,d,e,g,h,f7]/\a<=9999/\b<=99/\c<=99/\d<=99/\e<=99/\g<=99/\h<=99/\f7<=99/\m.na<=999999999/\(m.sh=1\/m.sh=2\/m.sh=3)/\(m.zo≠0->m.sh=3)
theorem QW {l:List UInt8}{sh c d e f g i na k:Nat}{m:Mo}(h:mO l sh [c,d,e,f,g,i] na k=ah m)(j:c<=9999)(n:d<=99)(o:e<=99)(p:f<=99)(q:g<=99)(r:i<=99)(s:na<=999999999)(u:sh=1\/sh=2\/sh=3):Ep m:=by
 unfold mO at h;split at h
 ·rename_i x
  split at h
  ·split at h
   ·cases h
    exact⟨c,d,e,f,g,i,0,0,rfl,j,n,o,p,q,r,iE,iE,s,.inr (.inr rfl),λ_=>rfl⟩
   ·cases h
  ·split at h
   ·split at h
    ·cases h
    ·rename_i z y v
     split at h
     ·obtain⟨us,e1,w,e3⟩:=BH _ _ _ _ _ _ v
      obtain⟨a,b,rfl⟩:=two w;have ha:=e3 0 a rfl;have t:=e3 1 b rfl;simp only[aB,if_true,Nat.reducePow]at ha t;simp only[bu]at e1;subst e1;cases h;exact⟨c,d,e,f,g,i,a,b,rfl,j,n,o,p,q,r,iE,by simp at t;omega,s,.inr (.inr rfl),λ_=>rfl⟩
     ·cases h
   ·cases h
 ·split at h
  ·cases h
   exact⟨c,d,e,f,g,i,0,0,rfl,j,n,o,p,q,r,iE,iE,s,u,λh=>absurd rfl h⟩
  ·cases h
theorem IV {l:List UInt8}{sh d0 d e k:Nat}{m:Mo}(h:qI l sh [d0,d,e] k=ah m)(f:d0<=9999)(g:d<=99)(i:e<=99)(q:sh<=1):Ep m:=by
 unfold qI at h;split at h
 ·cases h
 ·rename_i t r j
  obtain⟨us,e1,n,e3⟩:=BH _ _ _ _ _ _ j;obtain⟨a,b,c,rfl⟩:=three n;have ha:=e3 0 a rfl;have o:=e3 1 b rfl;have hc:=e3 2 c rfl;simp only[bu]at e1;subst e1;split at h
  ·cases h
  ·rename_i na s p
   exact QW h f g i (by simp at ha;omega) (by simp at o;omega) (by simp at hc;omega) (QV p) iE
theorem Es {l:List UInt8}{m:Mo}(h:rD l=ah m):Ep m:=by
 unfold rD at h;split at h
 ·split at h
  ·cases h
  ·rename_i d k hd
   obtain⟨us,e1,e,e3⟩:=BH _ _ _ _ _ _ hd;obtain⟨a,b,c,rfl⟩:=three e;have ha:=e3 0 a rfl;have f:=e3 1 b rfl;have hc:=e3 2 c rfl;simp only[bu]at e1;subst e1;simp at ha f hc;split at h
   ·cases h
    exact⟨a,b,c,0,0,0,0,0,rfl,iE,iE,iE,iE,iE,iE,iE,iE,iH,.inl rfl,λh=>absurd rfl h⟩
   ·split at h
    ·exact IV h iE iE iE (aP _)
    ·cases h
 ·exact IV h iE iE iE (aT _)
