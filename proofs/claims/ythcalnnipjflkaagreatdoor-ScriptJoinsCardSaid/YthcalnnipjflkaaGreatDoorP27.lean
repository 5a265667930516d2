import Derived.Test.YthcalnnipjflkaaGreatDoorP03
import Derived.Test.YthcalnnipjflkaaGreatDoorP17
import Derived.Laws.ResultCell
import Derived.Lib.AtoiBound
open List renaming setIfInBounds_toArray -> ae, set_cons_succ -> ah, set_cons_zero -> aj, take_of_length_le -> aS, dropWhile_sublist -> aT, getD_eq_getElem?_getD -> aY, getElem?_eq_getElem -> bz, length_drop -> bD, extract_eq_drop_take -> bJ, length_reverse -> bY, length_pos_iff -> bZ, mem_reverse -> di, length_take -> dm
open Go.Lib renaming cell_of_heap -> af, frozen_of_heap -> aA, indexByte -> aO, itoa -> aU, repeatL -> aZ, atoi -> bQ, itoa_length_le -> cu
open PLift renaming up -> ag
open Option renaming none -> au, some -> ax
open Nat renaming reduceAdd -> ay, le_refl -> aK, le_of_lt -> aW, lt_of_lt_of_le -> bu, le_trans -> dA
open Array renaming getElem?_eq_some_iff -> az, getElem?_push -> bI, toList_extract -> bT, size_push -> dn
open Bool renaming false -> aB, true -> bn, and_eq_true -> bK
open Go renaming World -> aC, heap_alloc_new -> aI, Value -> aV, Calls -> aX, bodyPost_ret -> bH, cell_later -> bU
open Go.RowKit renaming Below -> aH
open Go.RowKit.Below renaming refl -> aJ
open Go.Proofs.Tryz renaming prog -> aN, underlying219 -> aQ, ntmps154 -> bC, func154 -> bG, ntmps208 -> bV, ntmps191 -> bW, func208 -> cZ, func191 -> dh, ntmps222 -> dw, func222 -> dB
open ByteArray renaming data_extract -> aP, size_append -> bP
open UInt8 renaming le_iff_toNat_le -> bF
set_option linter.all false
set_option maxHeartbeats 4000000
set_option maxRecDepth 100000
namespace Go.Proofs.YthcalnnipjflkaaGreatDoor
open Go.RowKit
open Go.Lib hiding intOf
def Ed (W:aC):Prop:=∀s:ByteArray,s.size<=18->
 aX aN 55 #[.string s] W λe w'=>(match bQ s.data.toList with
  |some n=>e=.returned (.tuple #[.int .i64 n,.nilIface])
  |none=>∃t p,e=.returned (.tuple #[.int .i64 0,.iface t p]))/\aH W.heap.size W w'
theorem Ee:∀(l:List UInt8) (c:UInt8),aO l c<(l.length:Int)
 |[],c=>by simp[aO]
 |x::l,c=>by
  have h:=Ee l c;unfold aO;simp only[List.length_cons]
  push_cast
  repeat' split
  all_goals omega
def vV (l:List UInt8):Option Nat:=
 if aO l 101<0 then au
 else if(kP (l.take (aO l 101).toNat)).isSome&&decide (l.length - (aO l 101).toNat<=6)then ax (aO l 101).toNat else au
theorem pI {P:Program}{fn:Func}{p u:Tmp}{ty:TypeId}(h:fn.results=#[.cell p ty,.tmp u])(tmps:Array aV)(w:aC)(g:Nat)(t:TypeId)(a:Array aV)(b:Nat×Nat)(d:TypeDesc)
  (hp:tmps.getD p undef=.pointer (ax ⟨g,0,au⟩))(c:w.heap[g]?=ax (.cells a t b))
  (e:P.underlying ty=ax d)(hd:(match d with|.struct _|.array _ _=>bn|_=>aB)=bn)(hi:(P.info? ty).map (·.size)=ax a.size):
  (results fn tmps).run P w=.ok (.tuple #[.agg a,tmps.getD u undef]) w:=by
 rw[results_cell_tmp h];simp only[hp,asAddr,Sem.run_pure,Result.andThen_ok,run_loadVar_row w g t ty a b d c e hd hi]
def Hy:aV:=.tuple #[.agg #[.bool aB,.slice au 0 0,.int .i64 0],.bool aB]
theorem PW (s:ByteArray)(hs:s.size<=70000)(w:aC)(b:vV s.data.toList=au):
  aX aN 154 #[.string s] w λr w'=>r=.returned Hy/\aH w.heap.size w w':=by
 have n:s.data.toList.length=s.size:=iH
 have i:=Ee s.data.toList 101;have o:=Lib.indexByte_ge s.data.toList 101;have j:=ag (λW:aC=>Tryz.strings_IndexByte s 101 W);rw[show((101:Int).toNat.toUInt8)=(101:UInt8)from rfl]at j;unfold vV at b;obtain⟨p,q⟩:=iC (aO s.data.toList 101);rw[q]at b i o j;rw[n]at b i;by_cases l:p<0
 ·obtain rfl:p= -1:=iE
  clear b i o q l n hs;go_enter bG,bC
  go_upto_region 1 with fail
  obtain⟨W0,f⟩:=iC (w.alloc (.cells #[.bool aB,.slice au 0 0,.int .i64 0] 219));have c:PLift (aH w.heap.size w W0/\W0.heap[w.heap.size]?=ax (.cells #[.bool aB,.slice au 0 0,.int .i64 0] 219)/\w.heap.size<W0.heap.size):=⟨by rw[<-f];exact⟨iW w _,aI w _,(az.1 (aI w _)).1⟩⟩;rw[f];clear f;have v:W0.cell? ⟨w.heap.size,0,au⟩=ax (.bool aB):=af c.1.2.1 0;have x:W0.cell? ⟨w.heap.size,1,au⟩=ax (.slice au 0 0):=af c.1.2.1 1;have y:W0.cell? ⟨w.heap.size,2,au⟩=ax (.int .i64 0):=af c.1.2.1 2;have z:W0.frozen? ⟨w.heap.size,0,au⟩=aB:=aA c.1.2.1 0;have A:W0.frozen? ⟨w.heap.size,1,au⟩=aB:=aA c.1.2.1 1;have C:W0.frozen? ⟨w.heap.size,2,au⟩=aB:=aA c.1.2.1 2
  go_wp2_with(go_at_call 47;refine(j.1 _).mono ?_;rintro e D ⟨rfl,rfl⟩)
  (try simp only[Exit.inBlock,Exit.then])
  refine bH (pI rfl _ _ w.heap.size _ _ _ _ rfl (ry c.1.2.1 _ _ _) aQ rfl vO) rfl ?_;exact⟨rfl,vP c.1.1 (aK _) _ _ _⟩
 ·obtain⟨k,rfl⟩:∃k:Nat,p=(k:Int):=⟨p.toNat,iE⟩
  rw[gZ l,Int.toNat_natCast]at b;have E:k<s.size:=iE
  have G:(k:Int)<(s.size:Int):=i;have H:(0:Int)<=(k:Int):=iE
  have I:¬(k:Int)<0:=l;have J:(s.size:Int)<=70000:=iE
  have hex:(s.extract 0 k).data.toList=s.data.toList.take k:=by simp[aP]
  have t:=ag (λW:aC=>Bj (s.extract 0 k) W (by unfold maxLen;simp;omega));rw[hex]at t;obtain⟨B,u⟩:=iC ((kP (s.data.toList.take k)).isSome);rw[u]at t b;cases B with
  |false=>
   clear b i o q l n hs hex u E;go_enter bG,bC
   go_upto_region 1 with fail
   obtain⟨W0,f⟩:=iC (w.alloc (.cells #[.bool aB,.slice au 0 0,.int .i64 0] 219));have c:PLift (aH w.heap.size w W0/\W0.heap[w.heap.size]?=ax (.cells #[.bool aB,.slice au 0 0,.int .i64 0] 219)/\w.heap.size<W0.heap.size):=⟨by rw[<-f];exact⟨iW w _,aI w _,(az.1 (aI w _)).1⟩⟩;rw[f];clear f
   go_wp2_with(first
    |(go_at_call 47;refine(j.1 _).mono ?_;rintro e D ⟨rfl,rfl⟩)
    |(go_at_call 131;refine(t.1 _).mono ?_;rintro e d ⟨rfl,m⟩;have g:=ag m;clear m;have b:=(g.1.block _ c.1.2.2).trans c.1.2.1;have v:d.cell? ⟨w.heap.size,0,au⟩=ax (.bool aB):=af b 0;have x:d.cell? ⟨w.heap.size,1,au⟩=ax (.slice au 0 0):=af b 1;have y:d.cell? ⟨w.heap.size,2,au⟩=ax (.int .i64 0):=af b 2;have z:d.frozen? ⟨w.heap.size,0,au⟩=aB:=aA b 0;have A:d.frozen? ⟨w.heap.size,1,au⟩=aB:=aA b 1;have C:d.frozen? ⟨w.heap.size,2,au⟩=aB:=aA b 2;clear b))
   (try simp only[Exit.inBlock,Exit.then])
   refine bH (pI rfl _ _ w.heap.size _ _ _ _ rfl (ry ((g.1.block _ c.1.2.2).trans c.1.2.1) _ _ _) aQ rfl vO) rfl ?_;exact⟨rfl,vP (c.1.1.trans (g.1.mono (aW c.1.2.2))) (aK _) _ _ _⟩
  |true=>
   have F:¬s.size - k<=6:=λh=>by simp[h]at b
   have K:(6:Int)<(s.size:Int) - (k:Int):=iE;clear b i o q l n hs hex u E F;go_enter bG,bC
   go_upto_region 1 with fail
   obtain⟨W0,f⟩:=iC (w.alloc (.cells #[.bool aB,.slice au 0 0,.int .i64 0] 219));have c:PLift (aH w.heap.size w W0/\W0.heap[w.heap.size]?=ax (.cells #[.bool aB,.slice au 0 0,.int .i64 0] 219)/\w.heap.size<W0.heap.size):=⟨by rw[<-f];exact⟨iW w _,aI w _,(az.1 (aI w _)).1⟩⟩;rw[f];clear f
   go_wp2_with(first
    |(go_at_call 47;refine(j.1 _).mono ?_;rintro e D ⟨rfl,rfl⟩)
    |(go_at_call 131;refine(t.1 _).mono ?_;rintro e d ⟨rfl,m⟩;have g:=ag m;clear m;have b:=(g.1.block _ c.1.2.2).trans c.1.2.1;have v:d.cell? ⟨w.heap.size,0,au⟩=ax (.bool aB):=af b 0;have x:d.cell? ⟨w.heap.size,1,au⟩=ax (.slice au 0 0):=af b 1;have y:d.cell? ⟨w.heap.size,2,au⟩=ax (.int .i64 0):=af b 2;have z:d.frozen? ⟨w.heap.size,0,au⟩=aB:=aA b 0;have A:d.frozen? ⟨w.heap.size,1,au⟩=aB:=aA b 1;have C:d.frozen? ⟨w.heap.size,2,au⟩=aB:=aA b 2;clear b))
   (try simp only[Exit.inBlock,Exit.then])
   refine bH (pI rfl _ _ w.heap.size _ _ _ _ rfl (ry ((g.1.block _ c.1.2.2).trans c.1.2.1) _ _ _) aQ rfl vO) rfl ?_;exact⟨rfl,vP (c.1.1.trans (g.1.mono (aW c.1.2.2))) (aK _) _ _ _⟩
def pJ (l:List UInt8):List UInt8:=if l.head?=ax 45 then l.drop 1 else l
theorem PX {l:List UInt8}(h:(kP l).isSome=bn):∀b∈pJ l,jZ b=bn:=by
 unfold kP at h;split at h
 ·cases h
 ·split at h
  ·rename_i d c
   have he:pJ l=qH l:=by
    cases l with
    |nil=>rfl
    |cons a t=>
     cases t with
     |nil=>
      by_cases ha:a=45
      ·subst ha;exact absurd c iG
      ·unfold pJ qH sF
       simp[ha]
     |cons b t=>
      unfold pJ qH sF;by_cases ha:a=45
      ·simp[ha]
      ·simp[ha]
   rw[he];exact List.all_eq_true.1 c
  ·cases h
theorem Hz {l:List UInt8}{k:Nat}(h:vV l=ax k):aO l 101=(k:Int)/\k<l.length/\(kP (l.take k)).isSome=bn/\l.length - k<=6:=by
 unfold vV at h;have b:=Ee l 101;split at h
 ·cases h
 ·split at h
  ·rename_i c a
   cases h;simp only[bK,decide_eq_true_eq]at a;exact⟨iE,iE,a.1,a.2⟩
  ·cases h
theorem PY (s:ByteArray)(hs:s.size<=70000)(w:aC)(k:Nat)(a:vV s.data.toList=ax k)(hx:bQ (s.data.toList.drop (k+1))=au)(hA:∀W,aH w.heap.size w W->Ed W):
  aX aN 154 #[.string s] w λr w'=>r=.returned Hy/\aH w.heap.size w w':=by
 have c:s.data.toList.length=s.size:=iH
 obtain⟨j,l,hv,m⟩:=Hz a;rw[c]at l m;have n:=ag (λW:aC=>Tryz.strings_IndexByte s 101 W);rw[show((101:Int).toNat.toUInt8)=(101:UInt8)from rfl,j]at n;have v:(k:Int)<(s.size:Int):=iE
 have x:(0:Int)<=(k:Int):=iE
 have y:¬(k:Int)<0:=iE
 have z:(s.size:Int)<=70000:=iE
 have A:¬(6:Int)<(s.size:Int) - (k:Int):=iE
 have hex:(s.extract 0 k).data.toList=s.data.toList.take k:=by simp[aP]
 have o:=ag (λW:aC=>Bj (s.extract 0 k) W (by unfold maxLen;simp;omega));rw[hex,hv]at o
 have p:(s.extract (k+1) s.size).data.toList=s.data.toList.drop (k+1):=by
  have h:(s.data.toList.drop (k+1)).length<=s.size - (k+1):=by rw[bD,c];exact aK _
  simp only[aP,bT,bJ]
  first
   |exact aS h
   |simpa using aS h
 have q:=ag (λ(W:aC) (u:aH w.heap.size w W)=>hA W u (s.extract (k+1) s.size) iI);simp only[p,hx]at q;clear a j l hv m hex p hx hA c hs;go_enter bG,bC
 go_upto_region 1 with fail
 obtain⟨W0,d⟩:=iC (w.alloc (.cells #[.bool aB,.slice au 0 0,.int .i64 0] 219));have b:PLift (aH w.heap.size w W0/\W0.heap[w.heap.size]?=ax (.cells #[.bool aB,.slice au 0 0,.int .i64 0] 219)/\w.heap.size<W0.heap.size):=⟨by rw[<-d];exact⟨iW w _,aI w _,(az.1 (aI w _)).1⟩⟩;rw[d];clear d
 go_upto_region 4 with(first
  |(go_at_call 47;refine(n.1 _).mono ?_;rintro e B ⟨rfl,rfl⟩)
  |(go_at_call 131;refine(o.1 _).mono ?_;rintro e C ⟨rfl,f⟩;have g:=ag (And.intro f (b.1.1.trans (f.mono (aW b.1.2.2))));clear f))
 go_wp2_with(go_at_call 55;refine(q.1 _ g.1.2).mono ?_;rintro e w3 ⟨⟨tt,pp,rfl⟩,t⟩;have i:=ag (g.1.1.trans (t.mono g.1.1.size));clear t;have a:=(i.1.block _ b.1.2.2).trans b.1.2.1;have D:w3.cell? ⟨w.heap.size,0,au⟩=ax (.bool aB):=af a 0;have E:w3.cell? ⟨w.heap.size,1,au⟩=ax (.slice au 0 0):=af a 1;have F:w3.cell? ⟨w.heap.size,2,au⟩=ax (.int .i64 0):=af a 2;have G:w3.frozen? ⟨w.heap.size,0,au⟩=aB:=aA a 0;have H:w3.frozen? ⟨w.heap.size,1,au⟩=aB:=aA a 1;have I:w3.frozen? ⟨w.heap.size,2,au⟩=aB:=aA a 2;clear a)
 (try simp only[Exit.inBlock,Exit.then])
 refine bH (pI rfl _ _ w.heap.size _ _ _ _ rfl (ry ((i.1.block _ b.1.2.2).trans b.1.2.1) _ _ _) aQ rfl vO) rfl ?_;exact⟨rfl,vP (b.1.1.trans (i.1.mono (aW b.1.2.2))) (aK _) _ _ _⟩
def Ib (W:aC):Prop:=∀s:ByteArray,aX aN 173 #[.string s,.string ⟨#[45]⟩] W λe w'=>e=.returned (.string ⟨(pJ s.data.toList).toArray⟩)/\aH W.heap.size W w'
def rC (l:List UInt8)(k:Nat)(e:Int):Bool×List UInt8×Int:=
 if lK (jP (pJ (l.take k)))=[]then(aB,[],0)else(l.head?==ax 45,lK (jP (pJ (l.take k))),yg (jP (pJ (l.take k))) e)
def readB (s:ByteArray)(n:Bool×List UInt8×Int):Bool:=(pG n.2.1.length n.2.2 ==0)&&((textF n.1 n.2.1 n.2.2).toList==s.toList)
theorem Qe {b:UInt8}{l:List UInt8}(h:b∈sG l):b∈l:=by unfold sG at h;have a:=di.1 h;exact di.1 ((aT _).mem a)
theorem Qg {b:UInt8}{l:List UInt8}(h:b∈lK l):b∈l:=(aT _).mem (Qe h)
def nU (s:ByteArray)(N:aV)(a:Int)(tx:ByteArray)(g:Nat)(b:Obj)(i:Nat)(x:Nat->aV)(X:aC):Prop:=
 match i with
 |0=>x 0=N
 |1=>x 1=N
 |2=>x 2=.int .i64 a
 |3=>x 3=.bool (a==0)
 |4=>x 4=.bool (a==0)
 |5=>a=0->x 5=N
 |6=>a=0->x 6=.string tx
 |7=>a=0->x 7=.string s
 |8=>a=0->x 8=.bool (tx.toList==s.toList)
 |9=>x 9=.bool ((a==0)&&(tx.toList==s.toList))
 |10=>X.heap[g]?=ax b
 |_=>x 11=.bool ((a==0)&&(tx.toList==s.toList))
def nV:Nat->List Nat
 |2=>[1]
 |3=>[2]
 |4=>[3]
 |5=>[4]
 |6=>[5,4]
 |7=>[4]
 |8=>[6,7,4]
 |9=>[4,8]
 |10=>[0]
 |11=>[9]
 |_=>[]
def jK (g:Nat)(Z b:Obj)(X a:aC):Prop:=aH g X a/\(∀k,g<k->k<X.heap.size->a.heap[k]?=X.heap[k]?)/\(X.heap[g]?=ax b->a.heap[g]?=ax b)/\(X.heap[g]?=ax Z\/X.heap[g]?=ax b->a.heap[g]?=ax Z\/a.heap[g]?=ax b)
theorem jK.trans {g:Nat}{Z e:Obj}{a b c:aC}(h:jK g Z e a b)(k:jK g Z e b c):jK g Z e a c:=
 ⟨h.1.trans k.1,λq d f=>(k.2.1 q d (bu f h.1.size)).trans (h.2.1 q d f),λd=>k.2.2.1 (h.2.2.1 d),λd=>k.2.2.2 (h.2.2.2 d)⟩
theorem jK.of {g:Nat}{Z e:Obj}{a b:aC}(c:g<a.heap.size)(h:aH a.heap.size a b):jK g Z e a b:=
 ⟨h.mono (aW c),λk _ f=>h.block k f,λd=>(h.block g c).trans d,λd=>by rw[h.block g c];exact d⟩
theorem nU.keep {s:ByteArray}{N:aV}{e:Int}{tx:ByteArray}{g:Nat}{Z c:Obj}(i:Nat)(x f:Nat->aV)(X d:aC)(hi:i<12)(hx:∀k,k=i\/k∈nV i->f k=x k)(j:jK g Z c X d\/X=d)(h:nU s N e tx g c i x X):nU s N e tx g c i f d:=by
 have l:i=0\/i=1\/i=2\/i=3\/i=4\/i=5\/i=6\/i=7\/i=8\/i=9\/i=10\/i=11:=iE
 have a:=hx i (.inl rfl);rcases l with rfl|rfl|rfl|rfl|rfl|rfl|rfl|rfl|rfl|rfl|rfl|rfl
 ·exact a.trans h
 ·exact a.trans h
 ·exact a.trans h
 ·exact a.trans h
 ·exact a.trans h
 ·exact λb=>a.trans (h b)
 ·exact λb=>a.trans (h b)
 ·exact λb=>a.trans (h b)
 ·exact λb=>a.trans (h b)
 ·exact a.trans h
 ·rcases j with m|rfl
  ·exact m.2.2.1 h
  ·exact h
 ·exact a.trans h
theorem Ic {g:Nat}{l:Obj}{X e:aC}{sl:aV}{L:List UInt8}(h:kQ X sl L)(f:X.heap[g]?=ax (.cells #[.bool aB,.slice au 0 0,.int .i64 0] 219))(i:jK g (.cells #[.bool aB,.slice au 0 0,.int .i64 0] 219) l X e):kQ e sl L:=by
 rcases h with h|⟨j,h,m,a⟩
 ·exact .inl h
 ·refine .inr ⟨j,h,m,?_⟩
  have n:=az.1 a;rcases Nat.lt_trichotomy g h with c|c|c
  ·exact(i.2.1 h c n.1).trans a
  ·subst c
   unfold jI at a;rw[a]at f;have d:=ig (λo=>match o with|some (Obj.cells p _ _)=>p[0]?|_=>au) f;simp only at d;cases k:L with
   |nil=>exact absurd k j
   |cons b t=>rw[k]at d;simp[byteCells]at d
  ·exact(i.1.block h c).trans a
def uk (W:aC)(s c:ByteArray)(a:Int)(e:Int)(D:List UInt8)(i:Nat)(x:Nat->aV)(X:aC):Prop:=
 match i with
 |0=>x 0=.string s
 |1=>x 1=.int .u8 a
 |2=>x 2=.bool (a==45)
 |3=>x 3=.string c
 |4=>∃g,x 4=.slice (ax ⟨g,0,au⟩) c.size c.size/\W.heap.size<=g/\jI X g (jP c.data.toList)
 |5=>x 5=.int .i64 e
 |6=>∃b sl ex,x 6=oM b sl ex/\kQ X sl D/\(D=[]->b=aB/\ex=0)/\(D≠[]->b=(a==45)/\ex=yg (jP c.data.toList) e)
 |_=>∃g,x 7=.pointer (ax ⟨g,0,au⟩)/\W.heap.size<=g/\X.heap[g]?=ax (.cells #[.bool aB,.slice au 0 0,.int .i64 0] 219)
def vW:Nat->List Nat
 |1=>[0]
 |2=>[1,0]
 |4=>[3]
 |6=>[5,4,3,2,1,0]
 |_=>[]
theorem uk.keep {W:aC}{s c:ByteArray}{m:Int}{e:Int}{D:List UInt8}(i:Nat)(x n:Nat->aV)(X j:aC)(hi:i<8)(hx:∀k,k=i\/k∈vW i->n k=x k)(o:aH X.heap.size X j\/X=j)(h:uk W s c m e D i x X):uk W s c m e D i n j:=by
 have p:i=0\/i=1\/i=2\/i=3\/i=4\/i=5\/i=6\/i=7:=iE
 have l:aH X.heap.size X j:=by
  rcases o with h|rfl
  ·exact h
  ·exact aJ _ _
 have a:=hx i (.inl rfl);rcases p with rfl|rfl|rfl|rfl|rfl|rfl|rfl|rfl
 ·exact a.trans h
 ·exact a.trans h
 ·exact a.trans h
 ·exact a.trans h
 ·obtain⟨g,d,f,b⟩:=h
  exact⟨g,a.trans d,f,b.below l⟩
 ·exact a.trans h
 ·obtain⟨q,sl,ex,d,f,b⟩:=h
  exact⟨q,sl,ex,a.trans d,f.below l,b⟩
 ·obtain⟨g,d,f,b⟩:=h
  exact⟨g,a.trans d,f,(l.block _ (az.1 b).1).trans b⟩
theorem head_eq (s:ByteArray)(h:0<s.size):(s.data.toList.head?==ax 45)=(((s[0]'h).toNat:Int)==45):=by
 have c:s.data.toList.head?=ax (s[0]'h):=by
  rw[List.head?_eq_getElem?];rw[bz (by simpa using h)]
  rfl
 rw[c];generalize s[0]'h=b
 have d:b=45↔(b.toNat:Int)=45:=by
  constructor
  ·rintro rfl;rfl
  ·intro h
   have e:b.toNat=45:=iE;rw[<-UInt8.ofNat_toNat (x:=b),e];rfl
 by_cases a:b=45
 ·subst a;rfl
 ·have f:¬(b.toNat:Int)=45:=λh=>a (d.2 h)
  have e1:(ax b==ax (45:UInt8))=aB:=by simpa using a
  have g:((b.toNat:Int)==45)=aB:=by simpa using f
  rw[e1,g]
theorem Qh (l:List UInt8):(lK l).length<=l.length:=by unfold lK sG;rw[bY];refine dA (aT _).length_le ?_;rw[bY];exact(aT _).length_le
theorem Qi {l:List UInt8}(h:∀b∈l,jZ b=bn):∀b∈jP l,b.toNat<=9:=by
 intro b d;unfold jP at d;obtain⟨a,ha,rfl⟩:=List.mem_map.1 d;have c:=h a ha;unfold jZ at c;simp only[bK,decide_eq_true_eq]at c;have e:48<=a.toNat:=by have:=c.1;simpa[bF]using this
 have f:a.toNat<=57:=by have:=c.2;simpa[bF]using this
 rw[UInt8.toNat_sub_of_le _ _ (by simpa[bF]using e)];simp;omega
theorem Qj (s:ByteArray)(hs:s.size<=70000)(w:aC)(k:Nat)(e:Int)(a0:vV s.data.toList=ax k)(hx:bQ (s.data.toList.drop (k+1))=ax e)
  (hA:∀W,aH w.heap.size w W->Ed W)(a1:∀W,aH w.heap.size w W->Ib W)(a2:∀W,aH w.heap.size w W->Be W):
  aX aN 154 #[.string s] w λr w'=>aH w.heap.size w w'/\∃sl,r=.returned (.tuple #[oM (rC s.data.toList k e).1 sl (rC s.data.toList k e).2.2,.bool (readB s (rC s.data.toList k e))])/\kQ w' sl (rC s.data.toList k e).2.1 :=by
 have l:s.data.toList.length=s.size:=iH
 obtain⟨a3,a4,hv,B⟩:=Hz a0;rw[l]at a4 B;have a5:=ag (λW:aC=>Tryz.strings_IndexByte s 101 W);rw[show((101:Int).toNat.toUInt8)=(101:UInt8)from rfl,a3]at a5;have bX:(k:Int)<(s.size:Int):=iE
 have b0:(0:Int)<=(k:Int):=iE
 have b1:¬(k:Int)<0:=iE
 have b2:(s.size:Int)<=70000:=iE
 have b3:¬(6:Int)<(s.size:Int) - (k:Int):=iE
 have hex:(s.extract 0 k).data.toList=s.data.toList.take k:=by simp[aP]
 have a6:=ag (λW:aC=>Bj (s.extract 0 k) W (by unfold maxLen;simp;omega));rw[hex,hv]at a6
 have a7:(s.extract (k+1) s.size).data.toList=s.data.toList.drop (k+1):=by
  have h:(s.data.toList.drop (k+1)).length<=s.size - (k+1):=by rw[bD,l];exact aK _
  simp only[aP,bT,bJ]
  first
   |exact aS h
   |simpa using aS h
 have a8:=ag (λ(W:aC) (ad:aH w.heap.size w W)=>hA W ad (s.extract (k+1) s.size) iI);simp only[a7,hx]at a8;have ai:=ag (λ(W:aC) (ad:aH w.heap.size w W)=>a1 W ad (s.extract 0 k));rw[hex]at ai;obtain⟨c,hc⟩:∃c:ByteArray,(⟨(pJ (s.data.toList.take k)).toArray⟩:ByteArray)=c:=⟨_,rfl⟩;have aa:c.data.toList=pJ (s.data.toList.take k):=by rw[<-hc]
 have a9:∀b∈c.data.toList,jZ b=bn:=by rw[aa];exact PX hv
 rw[hc]at ai;have ba:=ag (show rC s.data.toList k e=if lK (jP c.data.toList)=[]then(aB,[],0)else(s.data.toList.head?==ax 45,lK (jP c.data.toList),yg (jP c.data.toList) e) by unfold rC;rw[aa]);have ak:=Lib.atoi_bound hx (by rw[bD,l];omega)
 have bb:c.size<=70000:=by
  have v:c.data.toList.length=c.size:=iH
  have G:(pJ (s.data.toList.take k)).length<=k:=by
   unfold pJ;split
   ·rw[bD,dm];omega
   ·rw[dm];omega
  rw[<-aa]at G;omega
 have al:=ag bb;have bc:0<s.size:=iE
 obtain⟨L,bs⟩:∃b:Int,((s[0]'bc).toNat:Int)=b:=⟨_,rfl⟩
 have ab:=ag (And.intro a9 (And.intro ak hs))
 have bt:=ag (show(s.data.toList.head?==ax 45)=(L==45) by rw[<-bs];exact head_eq s bc)
 have bv:=ag a2;obtain⟨R,hR⟩:=iC (rC s.data.toList k e);rw[hR]at ba;rw[hR];clear a0 a3 a4 hv B hex a7 hx hA a1 l hc aa a9 ak hs bb hR a2;go_enter bG,bC
 go_upto_region 1 with fail
 obtain⟨W0,am⟩:=iC (w.alloc (.cells #[.bool aB,.slice au 0 0,.int .i64 0] 219));have N:PLift (aH w.heap.size w W0/\W0.heap[w.heap.size]?=ax (.cells #[.bool aB,.slice au 0 0,.int .i64 0] 219)/\w.heap.size<W0.heap.size):=⟨by rw[<-am];exact⟨iW w _,aI w _,(az.1 (aI w _)).1⟩⟩;rw[am];clear am
 go_upto_region 4 with(first
  |(go_at_call 47;refine(a5.1 _).mono ?_;rintro e b4 ⟨rfl,rfl⟩)
  |(go_at_call 131;refine(a6.1 _).mono ?_;rintro e b5 ⟨rfl,an⟩;have P:=ag (And.intro an (N.1.1.trans (an.mono (aW N.1.2.2))));clear an))
 go_upto_region 8 with(first
  |(go_at_call 55;refine(a8.1 _ P.1.2).mono ?_;rintro e w3 ⟨rfl,ao⟩;have Q:=ag (And.intro (P.1.1.trans (ao.mono P.1.1.size)) (P.1.2.trans (ao.mono P.1.2.size)));clear ao)
  |(go_at_call 173;refine(ai.1 _ Q.1.2).mono ?_;rintro e bw ⟨rfl,ap⟩;have bx:=ag (And.intro (Q.1.1.trans (ap.mono Q.1.1.size)) (Q.1.2.trans (ap.mono Q.1.2.size)));clear ap))
 have b6:=ag (show s.size<=70000 from ab.1.2.2);refine Mix.P6 43 7 8 1 vW (λX I=>aH X.heap.size X I) (uk bw s c L e (lK (jP c.data.toList))) iF rfl (.inl iG) iF iF iF iF iF ⟨rfl,rfl,rfl,aK _,λ_ _=>rfl⟩ (λ_ _ _ h k=>h.trans (k.mono h.size)) (λi x aq X I hi hx ar h=>uk.keep i x aq X I hi hx ar h) ?z0 ?hN
 case z0=>
  intro i o x X hi f z hd
  match i,hi with
  |0,_=>injection f with f;subst f;refine .inr ⟨rfl,.inl ⟨.string s,X,?_,aJ _ _,iR.upd_same _ _ _⟩⟩;simp only[iR.jg,ay,ae,ah,aj];go_simp
  |1,_=>injection f with f;subst f;have aD:=hd 0 (by simp[vW]);simp only[uk]at aD;refine .inr ⟨rfl,.inl ⟨.int .u8 L,X,?_,aJ _ _,iR.upd_same _ _ _⟩⟩;simp only[iR.jg,ay,ae,ah,aj];go_simp
  |2,_=>injection f with f;subst f;have v:=hd 1 (by simp[vW]);simp only[uk]at v;refine .inr ⟨rfl,.inl ⟨.bool (L==45),X,?_,aJ _ _,iR.upd_same _ _ _⟩⟩;simp only[iR.jg,ay,ae,ah,aj];go_simp
  |3,_=>injection f with f;subst f;refine .inr ⟨rfl,.inl ⟨.string c,X,?_,aJ _ _,iR.upd_same _ _ _⟩⟩;simp only[iR.jg,ay,ae,ah,aj];go_simp
  |4,_=>
   injection f with f;subst f;have bd:=hd 3 (by simp[vW]);simp only[uk]at bd;refine .inr ⟨rfl,.inr ⟨175,#[.string c],?_,?_⟩⟩
   ·simp only[iR.jg,ay,ae,ah,aj]
    go_simp
   ·refine(OQ c X (by have:=al.1;omega) ab.1.1).mono ?_
    rintro r I ⟨rfl,v,G⟩;exact⟨_,rfl,v,X.heap.size,iR.upd_same _ _ _,z.size,G⟩
  |5,_=>injection f with f;subst f;refine .inr ⟨rfl,.inl ⟨.int .i64 e,X,?_,aJ _ _,iR.upd_same _ _ _⟩⟩;simp only[iR.jg,ay,ae,ah,aj];go_simp
  |6,_=>
   injection f with f;subst f;have G:=hd 2 (by simp[vW]);have S:=hd 5 (by simp[vW]);obtain⟨g,j,b7,bA⟩:=hd 4 (by simp[vW]);simp only[uk]at G S;refine .inr ⟨rfl,.inr ⟨174,#[.bool (L==45),.slice (ax ⟨g,0,au⟩) c.size c.size,.int .i64 e],?_,?_⟩⟩
   ·simp only[iR.jg,ay,ae,ah,aj]
    go_simp
   ·have be:(jP c.data.toList).length=c.size:=by simp[jP]
    have ak:=ab.1.2.1;have hn:=O3 (L==45) (jP c.data.toList) e g X bA (by rw[be];have:=al.1;omega) iE iE;rw[be]at hn;refine hn.mono ?_;rintro r I ⟨v,⟨B,rfl⟩|⟨B,q,H,rfl,K⟩⟩
    ·exact⟨_,rfl,v,aB,.slice au 0 0,0,iR.upd_same _ _ _,.inl ⟨B,rfl⟩,λ_=>⟨rfl,rfl⟩,λh=>absurd B h⟩
    ·exact⟨_,rfl,v,(L==45),_,_,iR.upd_same _ _ _,.inr ⟨B,q,rfl,K⟩,λh=>absurd h B,λ_=>⟨rfl,rfl⟩⟩
  |7,_=>injection f with f;subst f;refine .inr ⟨rfl,.inl ⟨.pointer (ax ⟨X.heap.size,0,au⟩),X.alloc (.cells #[.bool aB,.slice au 0 0,.int .i64 0] 219),?_,iW X _,⟨X.heap.size,iR.upd_same _ _ _,z.size,aI X _⟩⟩⟩;simp only[iR.jg,ay,ae,ah,aj];go_simp
 case hN=>
  intro x X z hF;obtain⟨C,sl,ex,B,T,U,V⟩:=hF 6 iG;obtain⟨q,K,H,u⟩:=hF 7 iG;have bf:X.cell? ⟨q,0,au⟩=ax (.bool aB):=af u 0;have bg:X.cell? ⟨q,1,au⟩=ax (.slice au 0 0):=af u 1;have bh:X.cell? ⟨q,2,au⟩=ax (.int .i64 0):=af u 2;have bi:X.frozen? ⟨q,0,au⟩=aB:=aA u 0;have bj:X.frozen? ⟨q,1,au⟩=aB:=aA u 1;have bk:X.frozen? ⟨q,2,au⟩=aB:=aA u 2;have aE:=ag (And.intro T (And.intro U (And.intro V (And.intro z (And.intro H u)))));clear hF T U V z H u;unfold oM at B
  have bB:∃p n y,sl=.slice p n y:=by
   rcases aE.1.1 with⟨_,rfl⟩|⟨_,h,rfl,_⟩
   ·exact⟨_,_,_,rfl⟩
   ·exact⟨_,_,_,rfl⟩
  obtain⟨p,m,y,rfl⟩:=bB;refine Mix.P7 (i:=8) iF rfl rfl ?_;unfold Oper.wp;simp only[iR.jg,ay,ae,ah,aj,B,K];go_simp;refine⟨iF,?_⟩;obtain⟨J,M⟩:=iC (((X.setCell ⟨q,0,au⟩ (.bool C)).setCell ⟨q,1,au⟩ (.slice p m y)).setCell ⟨q,2,au⟩ (.int .i64 ex))
  have A:PLift (R=(C,lK (jP c.data.toList),ex)/\m=(lK (jP c.data.toList)).length/\kQ J (.slice p m y) (lK (jP c.data.toList))/\J.heap[q]?=ax (.cells #[.bool C,.slice p m y,.int .i64 ex] 219)/\
    J.heap[w.heap.size]?=ax (.cells #[.bool aB,.slice au 0 0,.int .i64 0] 219)/\aH w.heap.size w J/\w.heap.size<q/\w.heap.size<J.heap.size/\q<J.heap.size):=⟨by
   obtain⟨T,U,V,z,H,u⟩:=aE.1;have bE:=(az.1 u).1;have j:=bx.1;have bl:w.heap.size<q:=bu N.1.2.2 (dA j.1.size H);have bm:J.heap.size=X.heap.size:=(by rw[<-M];simp[World.setCell]);refine⟨?_,?_,?_,by rw[<-M];exact ry u _ _ _,?_,?_,bl,by rw[bm];omega,by rw[bm];exact bE⟩
   ·rw[ba.1]
    split
    ·rename_i F
     rw[(U F).1,(U F).2,F]
    ·rename_i F
     rw[(V F).1,(V F).2,bt.1]
   ·rcases T with⟨F,hs⟩|⟨F,h,hs,_⟩
    ·rw[F];cases hs;rfl
    ·cases hs;rfl
   ·rcases T with⟨F,hs⟩|⟨F,h,hs,hr⟩
    ·exact .inl ⟨F,hs⟩
    ·refine .inr ⟨F,h,hs,?_⟩
     have bL:h≠q:=λe=>by
      subst e;unfold jI at hr;rw[hr]at u;have v:=ig (λo=>match o with|some (Obj.cells bM _ _)=>bM[0]?|_=>au) u;simp only at v;cases l:lK (jP c.data.toList)with
      |nil=>exact F l
      |cons b t=>rw[l]at v;simp[byteCells]at v
     unfold jI at hr⊢;rw[<-M,Bd _ _ _ bL];exact hr
   ·rw[<-M,Bd _ _ _ iE]
    rw[z.block _ (bu N.1.2.2 j.1.size),j.1.block _ N.1.2.2];exact N.1.2.1
   ·rw[<-M]
    exact vP (j.2.trans (z.mono j.2.size)) (aW bl) _ _ _⟩
  rw[M];clear M B K bf bg bh bi bj bk aE
  go_upto_region 9 with fail
  obtain⟨tx,bo⟩:=iC (textF C (lK (jP c.data.toList)) ex);obtain⟨D,bp⟩:=iC (pG m ex);have bq:=ag bo;have aF:=ag bp
  have aG:PLift (m<=70000/\∀b∈lK (jP c.data.toList),b.toNat<=9):=⟨by have v:(jP c.data.toList).length=c.size:=(by simp[jP]);have G:(lK (jP c.data.toList)).length<=(jP c.data.toList).length:=Qh _;have bd:=al.1;refine⟨by rw[A.1.2.1];omega,λb br=>Qi ab.1.1 b (Qg br)⟩⟩
  clear bo bp
  refine Mix.Eh 50 10 3 nV (jK w.heap.size (.cells #[.bool aB,.slice au 0 0,.int .i64 0] 219) (.cells #[.bool C,.slice p m y,.int .i64 ex] 219))
   (nU s (.agg #[.bool C,.slice p m y,.int .i64 ex]) D tx w.heap.size (.cells #[.bool C,.slice p m y,.int .i64 ex] 219)) iF rfl (.inl iG) iF iF iF iF (jK.of A.1.2.2.2.2.2.2.2.1 ⟨rfl,rfl,rfl,aK _,λ_ _=>rfl⟩) (λ_ _ _ h k=>h.trans k)
   (λi x aq X I hi hx ar h=>nU.keep i x aq X I hi hx ar h) ?z0 ?hN
  case z0=>
   intro i o x X hi f z hd
   have E:PLift (w.heap.size<X.heap.size/\kQ X (.slice p m y) (lK (jP c.data.toList))/\aH w.heap.size w X/\(X.heap[w.heap.size]?=ax (.cells #[.bool aB,.slice au 0 0,.int .i64 0] 219)\/X.heap[w.heap.size]?=ax (.cells #[.bool C,.slice p m y,.int .i64 ex] 219))):=⟨by refine⟨bu A.1.2.2.2.2.2.2.2.1 z.1.size,?_,A.1.2.2.2.2.2.1.trans z.1,z.2.2.2 (.inl A.1.2.2.2.2.1)⟩;exact Ic A.1.2.2.1 A.1.2.2.2.2.1 z⟩
   have H:X.heap[q]?=ax (.cells #[.bool C,.slice p m y,.int .i64 ex] 219):=(z.2.1 q A.1.2.2.2.2.2.2.1 A.1.2.2.2.2.2.2.2.2).trans A.1.2.2.2.1;have bf:X.cell? ⟨q,0,au⟩=ax (.bool C):=af H 0;have bg:X.cell? ⟨q,1,au⟩=ax (.slice p m y):=af H 1;have bh:X.cell? ⟨q,2,au⟩=ax (.int .i64 ex):=af H 2;clear z H;have Y:∀(h:D=0),(D==0)=bn:=λh=>by rw[h];rfl
   have Z:∀(h:¬D=0),(D==0)=aB:=λh=>by simpa using h
   match i,hi with
   |0,_=>injection f with f;subst f;refine .inl (.inr ⟨rfl,.inl ⟨_,X,?_,jK.of E.1.1 (aJ _ _),iR.upd_same _ _ _⟩⟩);simp only[Mix.jA,iR.jg,ay,ae,ah,aj];go_simp
   |1,_=>injection f with f;subst f;refine .inl (.inr ⟨rfl,.inl ⟨_,X,?_,jK.of E.1.1 (aJ _ _),iR.upd_same _ _ _⟩⟩);simp only[Mix.jA,iR.jg,ay,ae,ah,aj];go_simp
   |2,_=>
    injection f with f;subst f;have v:=hd 1 (by simp[nV]);simp only[nU]at v;refine .inl (.inr ⟨rfl,.inr ⟨176,#[.agg #[.bool C,.slice p m y,.int .i64 ex]],?_,?_⟩⟩)
    ·simp only[Mix.jA,iR.jg,ay,ae,ah,aj]
     go_simp
    ·refine(O4 C p m y ex (by have:=aG.1.1;omega) X).mono ?_
     rintro r I ⟨rfl,G⟩;refine⟨_,rfl,jK.of E.1.1 G,?_⟩;rw[aF.1];exact iR.upd_same _ _ _
   |3,_=>injection f with f;subst f;have v:=hd 2 (by simp[nV]);simp only[nU]at v;refine .inl (.inr ⟨rfl,.inl ⟨.bool (D==0),X,?_,jK.of E.1.1 (aJ _ _),iR.upd_same _ _ _⟩⟩);simp only[Mix.jA,iR.jg,ay,ae,ah,aj];go_simp
   |4,_=>injection f with f;subst f;have v:=hd 3 (by simp[nV]);simp only[nU]at v;refine .inl (.inr ⟨rfl,.inl ⟨.bool (D==0),X,?_,jK.of E.1.1 (aJ _ _),iR.upd_same _ _ _⟩⟩);simp only[Mix.jA,iR.jg,ay,ae,ah,aj];go_simp
   |5,_=>
    injection f with f;subst f;have j:=hd 4 (by simp[nV]);simp only[nU]at j;by_cases l:D=0
    ·rw[Y l]at j
     refine .inl (.inr ⟨?_,.inl ⟨.agg #[.bool C,.slice p m y,.int .i64 ex],X,?_,jK.of E.1.1 (aJ _ _),λ_=>iR.upd_same _ _ _⟩⟩)
     ·simp only[Mix.jA,iR.jg,ay,ae,ah,aj,j]
      rfl
     ·simp only[Mix.jA,iR.jg,ay,ae,ah,aj]
      go_simp
    ·rw[Z l]at j
     refine .inl (.inl ⟨?_,λh=>absurd h l⟩);simp only[Mix.jA,iR.jg,ay,ae,ah,aj,j]
     rfl
   |6,_=>
    injection f with f;subst f;have j:=hd 4 (by simp[nV]);have S:=hd 5 (by simp[nV]);simp only[nU]at j S;by_cases l:D=0
    ·rw[Y l]at j
     have S:=S l;refine .inl (.inr ⟨?_,.inr ⟨177,#[.agg #[.bool C,.slice p m y,.int .i64 ex]],?_,?_⟩⟩)
     ·simp only[Mix.jA,iR.jg,ay,ae,ah,aj,j]
      rfl
     ·simp only[Mix.jA,iR.jg,ay,ae,ah,aj]
      go_simp
     ·have O:=aF.1
      have br: -2000<=ex/\ex<=2000:=by
       rw[l]at O;unfold pG at O;split at O
       ·cases O
       ·split at O
        ·cases O
        ·omega
      refine(O9 C (.slice p m y) (lK (jP c.data.toList)) ex X E.1.2.1 (by have:=aG.1.1;have:=A.1.2.1;omega) aG.1.2 iE iE (by have:=cu (n:=ex) iE iE;omega) (λW bN=>bv.1 W (E.1.2.2.1.trans (bN.mono E.1.2.2.1.size)))).mono ?_;rintro r I ⟨rfl,G⟩;refine⟨_,rfl,jK.of E.1.1 G,λ_=>?_⟩;rw[bq.1];exact iR.upd_same _ _ _
    ·rw[Z l]at j
     refine .inl (.inl ⟨?_,λh=>absurd h l⟩);simp only[Mix.jA,iR.jg,ay,ae,ah,aj,j]
     rfl
   |7,_=>
    injection f with f;subst f;have j:=hd 4 (by simp[nV]);simp only[nU]at j;by_cases l:D=0
    ·rw[Y l]at j
     refine .inl (.inr ⟨?_,.inl ⟨.string s,X,?_,jK.of E.1.1 (aJ _ _),λ_=>iR.upd_same _ _ _⟩⟩)
     ·simp only[Mix.jA,iR.jg,ay,ae,ah,aj,j]
      rfl
     ·simp only[Mix.jA,iR.jg,ay,ae,ah,aj]
      go_simp
    ·rw[Z l]at j
     refine .inl (.inl ⟨?_,λh=>absurd h l⟩);simp only[Mix.jA,iR.jg,ay,ae,ah,aj,j]
     rfl
   |8,_=>
    injection f with f;subst f;have j:=hd 4 (by simp[nV]);have B:=hd 6 (by simp[nV]);have K:=hd 7 (by simp[nV]);simp only[nU]at j B K;by_cases l:D=0
    ·rw[Y l]at j
     have B:=B l;have K:=K l;refine .inl (.inr ⟨?_,.inl ⟨.bool (tx.toList==s.toList),X,?_,jK.of E.1.1 (aJ _ _),λ_=>iR.upd_same _ _ _⟩⟩)
     ·simp only[Mix.jA,iR.jg,ay,ae,ah,aj,j]
      rfl
     ·simp only[Mix.jA,iR.jg,ay,ae,ah,aj]
      go_simp
    ·rw[Z l]at j
     refine .inl (.inl ⟨?_,λh=>absurd h l⟩);simp only[Mix.jA,iR.jg,ay,ae,ah,aj,j]
     rfl
   |9,_=>
    injection f with f;subst f;have j:=hd 4 (by simp[nV]);have aL:=hd 8 (by simp[nV]);simp only[nU]at j aL;refine .inl (.inr ⟨rfl,.inl ⟨.bool ((D==0)&&(tx.toList==s.toList)),X,?_,jK.of E.1.1 (aJ _ _),iR.upd_same _ _ _⟩⟩);by_cases l:D=0
    ·have aL:=aL l
     rw[Y l]at j⊢;simp only[Mix.jA,iR.jg,ay,ae,ah,aj];go_simp
    ·rw[Z l]at j⊢
     simp only[Mix.jA,iR.jg,ay,ae,ah,aj];go_simp
   |10,_=>
    injection f with f;subst f;have aD:=hd 0 (by simp[nV]);simp only[nU]at aD
    have u:∃a b d,X.heap[w.heap.size]?=ax (.cells #[a,b,d] 219):=by
     rcases E.1.2.2.2 with h|h
     ·exact⟨_,_,_,h⟩
     ·exact⟨_,_,_,h⟩
    obtain⟨bO,bR,d0,u⟩:=u;have b8:X.cell? ⟨w.heap.size,0,au⟩=ax bO:=af u 0;have e1:X.cell? ⟨w.heap.size,1,au⟩=ax bR:=af u 1;have b9:X.cell? ⟨w.heap.size,2,au⟩=ax d0:=af u 2;have bi:X.frozen? ⟨w.heap.size,0,au⟩=aB:=aA u 0;have bj:X.frozen? ⟨w.heap.size,1,au⟩=aB:=aA u 1;have bk:X.frozen? ⟨w.heap.size,2,au⟩=aB:=aA u 2;refine .inr ⟨rfl,rfl,((X.setCell ⟨w.heap.size,0,au⟩ (.bool C)).setCell ⟨w.heap.size,1,au⟩ (.slice p m y)).setCell ⟨w.heap.size,2,au⟩ (.int .i64 ex),?_,?_,ry u _ _ _⟩
    ·simp only[Mix.jA,iR.jg,ay,ae,ah,aj]
     go_simp
    ·refine⟨?_,λk v G=>Bd _ _ _ iE,λ_=>ry u _ _ _,λ_=>.inr (ry u _ _ _)⟩
     exact((aJ w.heap.size X).setCell (p:=⟨w.heap.size,0,au⟩) (aK _) _ |>.setCell (p:=⟨w.heap.size,1,au⟩) (aK _) _).setCell (p:=⟨w.heap.size,2,au⟩) (aK _) _
   |11,_=>injection f with f;subst f;have bS:=hd 9 (by simp[nV]);simp only[nU]at bS;refine .inl (.inr ⟨rfl,.inl ⟨.bool ((D==0)&&(tx.toList==s.toList)),X,?_,jK.of E.1.1 (aJ _ _),iR.upd_same _ _ _⟩⟩);simp only[Mix.jA,iR.jg,ay,ae,ah,aj];go_simp
  case hN=>
   intro x X z hF;have aM:=hF 10 iG;have aR:=hF 11 iG;simp only[nU]at aM aR;have ac:=ag (And.intro aR (And.intro z aM));clear hF z aM aR;simp only[Mix.jA,iR.jg,ay,ae,ah,aj,ac.1.1];go_wp2
   (try simp only[Exit.inBlock,Exit.then])
   refine bH (pI rfl _ _ w.heap.size _ _ _ _ rfl ac.1.2.2 aQ rfl vO) rfl ?_;refine⟨A.1.2.2.2.2.2.1.trans ac.1.2.1.1,.slice p m y,?_,?_⟩
   ·rw[A.1.1]
    unfold readB oM;simp only;rw[<-A.1.2.1,aF.1,bq.1]
    rfl
   ·rw[A.1.1]
    simp only;exact Ic A.1.2.2.1 A.1.2.2.2.2.1 ac.1.2.1
def lq (w:aC):Prop:=∀W,aH w.heap.size w W->Ed W/\Ib W/\Be W
theorem lq.below {w W:aC}(h:lq w)(a:aH w.heap.size w W):lq W:=λX b=>h X (a.trans (b.mono a.size))
def jF (s:ByteArray):(Bool×List UInt8×Int)×Bool:=
 match vV s.data.toList with
 |none=>((aB,[],0),aB)
 |some k=>match bQ (s.data.toList.drop (k+1))with
  |none=>((aB,[],0),aB)
  |some e=>(rC s.data.toList k e,readB s (rC s.data.toList k e))
theorem Ie {s:ByteArray}(h:(jF s).2 =bn):(jF s).1.2.1.length<=400/\ -2000<=(jF s).1.2.2 /\(jF s).1.2.2 <=2000:=by
 unfold jF at h⊢;split at h
 ·cases h
 ·split at h
  ·cases h
  ·rename_i k b _ e he
   unfold readB at h;rw[bK]at h;have a:pG (rC s.data.toList k e).2.1.length (rC s.data.toList k e).2.2 =0:=(by simpa using h.1);unfold pG at a;split at a
   ·cases a
   ·split at a
    ·cases a
    ·simp only
     exact⟨iE,iE,iE⟩
theorem Ei (s:ByteArray)(hs:s.size<=70000)(w:aC)(b:lq w):
  aX aN 154 #[.string s] w λr w'=>aH w.heap.size w w'/\∃sl,r=.returned (.tuple #[.agg #[.bool (jF s).1.1,sl,.int .i64 (jF s).1.2.2],.bool (jF s).2])/\kQ w' sl (jF s).1.2.1 :=by
 unfold jF;cases c:vV s.data.toList with
 |none=>refine(PW s hs w c).mono ?_;rintro r w' ⟨rfl,d⟩;exact⟨d,.slice au 0 0,rfl,.inl ⟨rfl,rfl⟩⟩
 |some k=>
  simp only;cases f:bQ (s.data.toList.drop (k+1))with
  |none=>refine(PY s hs w k c f (λW a=>(b W a).1)).mono ?_;rintro r w' ⟨rfl,d⟩;exact⟨d,.slice au 0 0,rfl,.inl ⟨rfl,rfl⟩⟩
  |some e=>exact Qj s hs w k e c f (λW a=>(b W a).1) (λW a=>(b W a).2.1) (λW a=>(b W a).2.2)
theorem kQ.slice {w:aC}{sl:aV}{L:List UInt8}(h:kQ w sl L):∃p c,sl=.slice p L.length c:=by
 rcases h with⟨rfl,rfl⟩|⟨_,h,rfl,_⟩
 ·exact⟨au,0,rfl⟩
 ·exact⟨_,_,rfl⟩
theorem Qk (s:ByteArray)(hs:s.size<=70000)(w:aC)(b:lq w):
  aX aN 132 #[.string s] w λr w'=>r=.returned (.bool (jF s).2)/\aH w.heap.size w w':=by
 have d:=ag (Ei s hs w b);obtain⟨m,f⟩:=iC ((jF s).1.1 );obtain⟨L,g⟩:=iC ((jF s).1.2.1 );obtain⟨ex,h⟩:=iC ((jF s).1.2.2 );obtain⟨ok,a⟩:=iC ((jF s).2 );rw[f,g,h,a]at d;rw[a];clear f g h a hs b;go_enter Tryz.func132,Tryz.ntmps132
 go_wp2_with(go_at_call 154;refine d.1.mono ?_;rintro e l ⟨i,sl,rfl,j⟩;obtain⟨p,c,rfl⟩:=j.slice;have k:=ag i;clear i j)
 go_ret;exact⟨rfl,k.1.trans ((iW l _).mono k.1.size)⟩
def jL (n w:Nat):ByteArray:=⟨(aZ [48] (w - (aU n).length)).toArray⟩++⟨(aU n).toArray⟩
theorem Ig (n:Nat)(hn:n<=1000000000):(aU (n:Int)).length<=21:=cu (n:=(n:Int)) iE iE
theorem oO (n w:Nat)(hn:n<=1000000000)(hw:w<=9):(jL n w).size<=30:=by
 unfold jL;rw[bP];have b:=Ig n hn;have c:(⟨(aU (n:Int)).toArray⟩:ByteArray).size=(aU (n:Int)).length:=by simp[ByteArray.size]
 have d:(⟨(aZ [48] (w - (aU (n:Int)).length)).toArray⟩:ByteArray).size<=w:=by
  have:∀k,(aZ [48] k).length=k:=by
   intro k
   induction k with
   |zero=>rfl
   |succ k a=>simp[aZ]at a⊢;try omega
  simp only[ByteArray.size,List.size_toArray];rw[this];omega
 omega
theorem xh (n a:Nat)(hn:n<=1000000000)(hw:a<=9)(w:aC)(h:lq w):
  aX aN 206 #[.int .i64 n,.int .i64 a] w λr w'=>r=.returned (.string (jL n a))/\aH w.heap.size w w':=by
 have i:=ag (λ(W:aC) (t:aH w.heap.size w W)=>(h W t).2.2 (n:Int) iE iE);have u:=Ig n hn;have f:(⟨(aU (n:Int)).toArray⟩:ByteArray).size=(aU (n:Int)).length:=by simp[ByteArray.size]
 have d:=ag (show jL n a=⟨(aZ [48] (a - (⟨(aU (n:Int)).toArray⟩:ByteArray).size)).toArray⟩++⟨(aU n).toArray⟩ by rw[f];rfl);have c:=oO n a hn hw;rw[d.1]at c;obtain⟨b,j⟩:∃b:ByteArray,(⟨(aU (n:Int)).toArray⟩:ByteArray)=b:=⟨_,rfl⟩;rw[j]at i f d c;have x:(b.size:Int)<=21:=iE
 have y:(0:Int)<=(b.size:Int):=iE
 obtain⟨k,l⟩:=iC (a - b.size);rw[l]at d c;have hmx:max (0:Int) ((a:Int) - (b.size:Int))=((k:Nat):Int):=iE
 have z:k<=9:=iE
 have m:=ag (λW:aC=>Tryz.strings_Repeat ⟨#[48]⟩ k W iE (by show 1*k<=_;omega));obtain⟨Z,g⟩:∃Z:ByteArray,(⟨(aZ [48] k).toArray⟩:ByteArray)=Z:=⟨_,rfl⟩;have o:(⟨(aZ (⟨#[48]⟩:ByteArray).data.toList k).toArray⟩:ByteArray)=Z:=g;rw[o]at m;rw[g]at d c;rw[bP]at c;have A:Z.size<=30:=iE
 have B:b.size<=30:=iE
 have C:¬(9223372036854775807:Int)<(Z.size:Int)+(b.size:Int):=iE
 have D:(a:Int)<=9:=iE
 have E:(0:Int)<=(a:Int):=iE
 clear hn hw h u f c j l g o;go_enter Tryz.func206,Tryz.ntmps206
 go_wp2_with(first
  |(go_at_call 81;refine(i.1 _ (aJ _ _)).mono ?_;rintro e F ⟨rfl,p⟩;have q:=ag p;clear p)
  |(go_at_call 218;refine(m.1 _).mono ?_;rintro e G ⟨rfl,s⟩;have v:=ag s;clear s))
 go_ret;exact⟨by rw[d.1];rfl,q.1.trans (v.1.mono q.1.size)⟩
def nX (n:Int):Int:=if n<0 then -1 else if 0<n then 1 else 0
theorem Qz (n:Int)(w:aC):
  aX aN 208 #[.int .i64 n] w λr w'=>r=.returned (.int .i64 (nX n))/\w'=w:=by
 by_cases b:n<0
 ·have a:=ag (show nX n= -1 by unfold nX;rw[gY b])
  go_enter cZ,bV;go_wp2;go_ret;exact⟨by rw[a.1];rfl,rfl⟩
 ·by_cases c:0<n
  ·have a:=ag (show nX n=1 by unfold nX;rw[gZ b,gY c])
   go_enter cZ,bV;go_wp2;go_ret;exact⟨by rw[a.1];rfl,rfl⟩
  ·have a:=ag (show nX n=0 by unfold nX;rw[gZ b,gZ c])
   go_enter cZ,bV;go_wp2;go_ret;exact⟨by rw[a.1];rfl,rfl⟩
theorem kQ.cell {w:aC}{p:Option Addr}{n c:Nat}{L:List UInt8}(h:kQ w (.slice p n c) L){k:Nat}(a:k<L.length):∃g,p=ax ⟨g,0,au⟩/\w.cell? ⟨g,k,au⟩=ax (.int .u8 ((L.getD k 0).toNat:Int)):=by
 rcases h with⟨rfl,_⟩|⟨_,h,b,d⟩
 ·simp at a
 ·cases b
  exact⟨h,rfl,d.cell a⟩
theorem Ik (i:Bool)(sl:aV)(ex:Int)(L:List UInt8)(k:Nat)(s:k<=1000000)(t:L.length<=1000000)(w:aC)(h:kQ w sl L):
  aX aN 222 #[.agg #[.bool i,sl,.int .i64 ex],.int .i64 k] w λr w'=>r=.returned (.int .u8 ((L.getD k 0).toNat:Int))/\aH w.heap.size w w':=by
 obtain⟨p,c,rfl⟩:=h.slice;by_cases a:k<L.length
 ·obtain⟨g,rfl,e⟩:=h.cell a
  have u:g<w.heap.size:=by
   rcases h with⟨rfl,_⟩|⟨_,q,j,l⟩
   ·simp at a
   ·cases j;exact(az.1 l).1
  have m:(k:Int)<(L.length:Int):=iE
  have v:(0:Int)<=(k:Int):=iE
  obtain⟨b,d⟩:∃b:Int,((L.getD k 0).toNat:Int)=b:=⟨_,rfl⟩;have x:∀o,(w.alloc o).cell? ⟨g,k,au⟩=ax (.int .u8 b):=λo=>by rw[<-d];exact bU (iW w o) e
  rw[d];have n:(L.length:Int)<=1000000:=iE
  clear d e h a;go_enter dB,dw;go_wp2;go_ret;exact⟨rfl,iW w _⟩
 ·have f:L.getD k 0=0:=by rw[aY,List.getElem?_eq_none iE];rfl
  rw[f];have m:¬(k:Int)<(L.length:Int):=iE
  have n:(L.length:Int)<=1000000:=iE
  clear h a f;go_enter dB,dw;go_wp2;go_ret;exact⟨rfl,iW w _⟩
theorem Il (w:aC)(A B:Obj):aH w.heap.size w ((w.alloc A).alloc B)/\((w.alloc A).alloc B).heap[w.heap.size]?=ax A/\((w.alloc A).alloc B).heap[w.heap.size+1]?=ax B:=by
 refine⟨(iW w _).alloc (iW w _).size _,?_,?_⟩
 ·show((w.heap.push A).push B)[w.heap.size]?=ax A
  rw[bI,gZ (by rw[dn];omega),bI,gY rfl]
 ·show((w.heap.push A).push B)[w.heap.size+1]?=ax B
  rw[bI,gY (by rw[dn])]
def um (L M:List UInt8):Nat->Nat->Int
 |0,_=>0
 |n+1,i=>if((L.getD i 0).toNat:Int) - ((M.getD i 0).toNat:Int)=0 then um L M n (i+1)else((L.getD i 0).toNat:Int) - ((M.getD i 0).toNat:Int)
def yu (L M:List UInt8)(e f:Int):Int:=
 if L=[]\/M=[]then(L.length:Int) - (M.length:Int)
 else if(L.length:Int)+e - (M.length:Int) - f=0 then um L M (max L.length M.length) 0 else(L.length:Int)+e - (M.length:Int) - f
theorem QA (v y:Bool)(J K:aV)(e1 g:Int)(L M:List UInt8)(w:aC)(z:kQ w J L)(A:kQ w K M)(U:L.length<=400)(V:M.length<=400)(ao: -2000<=e1)(ap:e1<=2000)(aq: -2000<=g)(ar:g<=2000):
  aX aN 209 #[.agg #[.bool v,J,.int .i64 e1],.agg #[.bool y,K,.int .i64 g]] w λr w'=>r=.returned (.int .i64 (yu L M e1 g))/\aH w.heap.size w w':=by
 obtain⟨n,o,rfl⟩:=z.slice;obtain⟨p,q,rfl⟩:=A.slice;have O:=ag (And.intro z A);have Y:(L.length:Int)<=400:=iE
 have Z:(M.length:Int)<=400:=iE
 have av:(0:Int)<=(L.length:Int):=iE
 have aw:(0:Int)<=(M.length:Int):=iE
 have c:=ag (show yu L M e1 g=if L=[]\/M=[]then(L.length:Int) - (M.length:Int)else if(L.length:Int)+e1 - (M.length:Int) - g=0 then um L M (max L.length M.length) 0 else(L.length:Int)+e1 - (M.length:Int) - g from rfl);clear z A U V;go_enter Tryz.func209,Tryz.ntmps209
 go_upto_region 1 with fail
 obtain⟨W0,B⟩:=iC ((w.alloc (.cells #[.bool v,.slice n L.length o,.int .i64 e1] 219)).alloc (.cells #[.bool y,.slice p M.length q,.int .i64 g] 219))
 have e:PLift (aH w.heap.size w W0/\W0.heap[w.heap.size]?=ax (.cells #[.bool v,.slice n L.length o,.int .i64 e1] 219)/\W0.heap[w.heap.size+1]?=ax (.cells #[.bool y,.slice p M.length q,.int .i64 g] 219)):=⟨by rw[<-B];exact Il w _ _⟩
 rw[B];clear B;have aD:W0.cell? ⟨w.heap.size,1,au⟩=ax (.slice n L.length o):=af e.1.2.1 1;have aE:W0.cell? ⟨w.heap.size,2,au⟩=ax (.int .i64 e1):=af e.1.2.1 2;have aG:W0.cell? ⟨w.heap.size+1,1,au⟩=ax (.slice p M.length q):=af e.1.2.2 1;have aL:W0.cell? ⟨w.heap.size+1,2,au⟩=ax (.int .i64 g):=af e.1.2.2 2;by_cases s:L=[]
 ·have k:((L.length:Int)==0)=bn:=by rw[s];rfl
  have c:=ag (c.1.trans (gY (.inl s)));clear s;go_wp2;go_ret;exact⟨by rw[c.1];rfl,e.1.1⟩
 ·have k:((L.length:Int)==0)=aB:=by
   have:0<L.length:=bZ.2 s
   simp;omega
  by_cases t:M=[]
  ·have hy:((M.length:Int)==0)=bn:=by rw[t];rfl
   have c:=ag (c.1.trans (gY (.inr t)));clear s t;go_wp2;go_ret;exact⟨by rw[c.1];rfl,e.1.1⟩
  ·have hy:((M.length:Int)==0)=aB:=by
    have:0<M.length:=bZ.2 t
    simp;omega
   have c:=ag (c.1.trans (gZ (λh=>h.elim s t)));clear s t;obtain⟨d,hd⟩:=iC ((L.length:Int)+e1 - (M.length:Int) - g);by_cases u:d=0
   ·have c:=ag (by have h:=c.1;rw[hd,gY u]at h;exact h)
    have aa:((L.length:Int)+e1 - (M.length:Int) - g==0)=bn:=(by rw[hd,u];rfl);clear hd u
    go_upto_region 8 with fail
    obtain⟨N,ab⟩:∃N:Nat,max L.length M.length=N:=⟨_,rfl⟩;have aM:(N:Int)<=400:=iE;have aR:max (L.length:Int) (M.length:Int)=(N:Int):=iE;rw[ab]at c;have a0:=ag (And.intro Y Z)
    go_loopw [49] (λC wr=>∃i:Nat,C=.int .i64 i/\i<=N/\um L M (N - i) i=um L M N 0/\aH W0.heap.size W0 wr) (λC _=>N - (intOf C).toNat)
    case atStart=>exact⟨0,rfl,Nat.zero_le _,rfl,aJ _ _⟩
    case round=>
     obtain⟨i,rfl,P,hsc,D⟩:=hrel;have E:=ag D;have a1:(i:Int)<=400:=iE;have a2:(0:Int)<=(i:Int):=iE;by_cases F:i<N
     ·have ac:(i:Int)<(N:Int):=iE
      have ad:=c.1
      have j:PLift (∀X:aC,aH wr.heap.size wr X->X.cell? ⟨w.heap.size,0,au⟩=ax (.bool v)/\X.cell? ⟨w.heap.size,1,au⟩=ax (.slice n L.length o)/\X.cell? ⟨w.heap.size,2,au⟩=ax (.int .i64 e1)/\
        X.cell? ⟨w.heap.size+1,0,au⟩=ax (.bool y)/\X.cell? ⟨w.heap.size+1,1,au⟩=ax (.slice p M.length q)/\X.cell? ⟨w.heap.size+1,2,au⟩=ax (.int .i64 g)/\kQ X (.slice n L.length o) L/\kQ X (.slice p M.length q) M/\aH W0.heap.size W0 X):=⟨λX ai=>by
       have l:=E.1.trans (ai.mono E.1.size);have Q:=e.1.1.trans (l.mono e.1.1.size);have ha:=(l.block _ (az.1 e.1.2.1).1).trans e.1.2.1;have G:=(l.block _ (az.1 e.1.2.2).1).trans e.1.2.2;exact⟨af ha 0,af ha 1,af ha 2,af G 0,af G 1,af G 2,O.1.1.below Q,O.1.2.below Q,l⟩⟩
      have H:=ag (λ(X:aC) (h:kQ X (.slice n L.length o) L)=>Ik v (.slice n L.length o) e1 L i iE iE X h);have I:=ag (λ(X:aC) (h:kQ X (.slice p M.length q) M)=>Ik y (.slice p M.length q) g M i iE iE X h);obtain⟨a,ha⟩:∃a:Int,((L.getD i 0).toNat:Int)=a:=⟨_,rfl⟩;obtain⟨b,l⟩:∃b:Int,((M.getD i 0).toNat:Int)=b:=⟨_,rfl⟩;have a3:0<=a:=iE;have a4:0<=b:=iE;have a5:a<=255:=(by have:=(L.getD i 0).toNat_lt;omega);have a6:b<=255:=(by have:=(M.getD i 0).toNat_lt;omega);rw[ha]at H;rw[l]at I
      have m:PLift (um L M N 0=if a - b=0 then um L M (N - (i+1)) (i+1)else a - b):=⟨by rw[<-hsc,show N - i=(N - (i+1))+1 by omega];show(if((L.getD i 0).toNat:Int) - ((M.getD i 0).toNat:Int)=0 then um L M (N - (i+1)) (i+1)else((L.getD i 0).toNat:Int) - ((M.getD i 0).toNat:Int))=_;rw[ha,l]⟩
      have R:=ag F;clear D hsc P F ha l ad
      go_upto_region 10 with fail
      refine Mix.mM (aF:=?_) iF iF iF iF iF ?_ ?_;rotate_left 1
      ·intro ρ f
       have a7:=λx:iR.Grow ρ=>(j.1 x.w (f.trans (x.h.mono f.size))).1
       have a8:=λx:iR.Grow ρ=>(j.1 x.w (f.trans (x.h.mono f.size))).2.1
       have a9:=λx:iR.Grow ρ=>(j.1 x.w (f.trans (x.h.mono f.size))).2.2.1
       have ba:=λx:iR.Grow ρ=>(j.1 x.w (f.trans (x.h.mono f.size))).2.2.2.1
       have bb:=λx:iR.Grow ρ=>(j.1 x.w (f.trans (x.h.mono f.size))).2.2.2.2.1
       have bc:=λx:iR.Grow ρ=>(j.1 x.w (f.trans (x.h.mono f.size))).2.2.2.2.2.1
       have ak:=ag (λx:iR.Grow ρ=>H.1 x.w (j.1 x.w (f.trans (x.h.mono f.size))).2.2.2.2.2.2.1);have al:=ag (λx:iR.Grow ρ=>I.1 x.w (j.1 x.w (f.trans (x.h.mono f.size))).2.2.2.2.2.2.2.1)
       repeat(go_big_quiet_step((first
        |(go_at_call 222;with_reducible exact iR.Grow.calls (ak.1 _))
        |(go_at_call 222;with_reducible exact iR.Grow.calls (al.1 _)))))
       apply wpQuiet_nil;exact rfl
      intro W S;have T:=ag (j.1 W S).2.2.2.2.2.2.2.2;clear S H I;by_cases k:a - b=0
      ·have m:=ag (m.1.trans (gY k))
       have am:(a - b==0)=bn:=(by rw[k];rfl);clear k;go_wp2;go_roundw
       case rel=>exact⟨i+1,by go_num,R.1,m.1.symm,T.1⟩
       case measure=>have:=R.1;simp[intOf];omega
      ·have m:=ag (m.1.trans (gZ k))
       have am:(a - b==0)=aB:=(by simpa using k);clear k;go_wp2;go_ret;exact⟨by rw[c.1,m.1];rfl,e.1.1.trans (T.1.mono e.1.1.size)⟩
     ·have he:i=N:=iE
      subst he;have m:PLift (um L M i 0=0):=⟨by rw[<-hsc,Nat.sub_self];rfl⟩;have ac:¬(i:Int)<(i:Int):=Int.lt_irrefl _;clear D hsc P F;go_wp2;go_ret;exact⟨by rw[c.1,m.1];rfl,e.1.1.trans (E.1.mono e.1.1.size)⟩
   ·have c:=ag (by have h:=c.1;rw[hd,gZ u]at h;exact h)
    have aa:((L.length:Int)+e1 - (M.length:Int) - g==0)=aB:=(by rw[hd];simpa using u);have an:=ag hd;clear hd u;go_wp2;go_ret;exact⟨by rw[c.1,<-an.1];rfl,e.1.1⟩
def BI (a b:Bool)(m:Int):Int:=if a=b then(if a then - nX m else nX m)else(if a then -1 else 1)
theorem Q3 (m:Int):nX m= -1\/nX m=0\/nX m=1:=by
 unfold nX;split
 ·exact .inl rfl
 ·split
  ·exact .inr (.inr rfl)
  ·exact .inr (.inl rfl)
theorem Q4 (b d:Bool)(j k:aV)(e1 f:Int)(L M:List UInt8)(w:aC)(l:kQ w j L)(n:kQ w k M)(y:L.length<=400)(z:M.length<=400)(A: -2000<=e1)(B:e1<=2000)(C: -2000<=f)(D:f<=2000):
  aX aN 192 #[.agg #[.bool b,j,.int .i64 e1],.agg #[.bool d,k,.int .i64 f]] w λr w'=>r=.returned (.int .i64 (BI b d (yu L M e1 f)))/\aH w.heap.size w w':=by
 have o:=ag (λ(X:aC) (i:aH w.heap.size w X)=>QA b d j k e1 f L M X (l.below i) (n.below i) y z A B C D);obtain⟨p,q,rfl⟩:=l.slice;obtain⟨s,t,rfl⟩:=n.slice;obtain⟨m,hm⟩:=iC (yu L M e1 f);rw[hm]at o⊢;have u:=ag (λX=>Qz m X);have hc:=Q3 m;have h:=ag (show BI b d m=if b=d then(if b then - nX m else nX m)else(if b then -1 else 1)from rfl);obtain⟨c,E⟩:=iC (nX m);rw[E]at u h hc;have J: -1<=c:=iE
 have K:c<=1:=iE
 clear l n y z A B C D hm E hc;go_enter Tryz.func192,Tryz.ntmps192
 go_upto_region 1 with fail
 obtain⟨W0,v⟩:=iC ((w.alloc (.cells #[.bool b,.slice p L.length q,.int .i64 e1] 219)).alloc (.cells #[.bool d,.slice s M.length t,.int .i64 f] 219))
 have a:PLift (aH w.heap.size w W0/\W0.heap[w.heap.size]?=ax (.cells #[.bool b,.slice p L.length q,.int .i64 e1] 219)/\W0.heap[w.heap.size+1]?=ax (.cells #[.bool d,.slice s M.length t,.int .i64 f] 219)):=⟨by rw[<-v];exact Il w _ _⟩
 rw[v];clear v;have F:PLift (∀X:aC,aH W0.heap.size W0 X->X.cell? ⟨w.heap.size,0,au⟩=ax (.bool b)):=⟨λX i=>af ((i.block _ (az.1 a.1.2.1).1).trans a.1.2.1) 0⟩;have N:W0.cell? ⟨w.heap.size,0,au⟩=ax (.bool b):=af a.1.2.1 0;have O:W0.cell? ⟨w.heap.size,1,au⟩=ax (.slice p L.length q):=af a.1.2.1 1;have P:W0.cell? ⟨w.heap.size,2,au⟩=ax (.int .i64 e1):=af a.1.2.1 2;have Q:W0.cell? ⟨w.heap.size+1,0,au⟩=ax (.bool d):=af a.1.2.2 0;have R:W0.cell? ⟨w.heap.size+1,1,au⟩=ax (.slice s M.length t):=af a.1.2.2 1;have S:W0.cell? ⟨w.heap.size+1,2,au⟩=ax (.int .i64 f):=af a.1.2.2 2;cases b with
 |true=>
  cases d with
  |false=>go_wp2;go_ret;exact⟨by rw[h.1];rfl,a.1.1⟩
  |true=>
   go_wp2_with(first
    |(go_at_call 209;refine(o.1 _ a.1.1).mono ?_;rintro e G ⟨rfl,g⟩;have x:=ag (a.1.1.trans (g.mono a.1.1.size));have H:=F.1 _ g;clear g)
    |(go_at_call 208;refine(u.1 _).mono ?_;rintro e I ⟨rfl,rfl⟩))
   go_ret;exact⟨by rw[h.1];rfl,x.1⟩
 |false=>
  cases d with
  |true=>go_wp2;go_ret;exact⟨by rw[h.1];rfl,a.1.1⟩
  |false=>
   go_wp2_with(first
    |(go_at_call 209;refine(o.1 _ a.1.1).mono ?_;rintro e G ⟨rfl,g⟩;have x:=ag (a.1.1.trans (g.mono a.1.1.size));have H:=F.1 _ g;clear g)
    |(go_at_call 208;refine(u.1 _).mono ?_;rintro e I ⟨rfl,rfl⟩))
   go_ret;exact⟨by rw[h.1];rfl,x.1⟩
def Et (s t:ByteArray):Int:=if(jF s).2 &&(jF t).2 then BI (jF s).1.1 (jF t).1.1 (yu (jF s).1.2.1 (jF t).1.2.1 (jF s).1.2.2 (jF t).1.2.2)else 0
theorem Q5 (s t:ByteArray)(hs:s.size<=70000)(N:t.size<=70000)(w:aC)(A:lq w):
  aX aN 167 #[.string s,.string t] w λr w'=>r=.returned (.int .i64 (Et s t))/\aH w.heap.size w w':=by
 have O:=ag (Ei s hs w A);have P:=ag (λ(X:aC) (T:aH w.heap.size w X)=>Ei t N X (A.below T));have B:=@Ie s;have C:=@Ie t;have o:=ag (show Et s t=if(jF s).2 &&(jF t).2 then BI (jF s).1.1 (jF t).1.1 (yu (jF s).1.2.1 (jF t).1.2.1 (jF s).1.2.2 (jF t).1.2.2)else 0 from rfl);obtain⟨k,D⟩:=iC ((jF s).1.1 );obtain⟨L,q⟩:=iC ((jF s).1.2.1 );obtain⟨ex,u⟩:=iC ((jF s).1.2.2 );obtain⟨ok,v⟩:=iC ((jF s).2 );obtain⟨l,g1⟩:=iC ((jF t).1.1 );obtain⟨M,g2⟩:=iC ((jF t).1.2.1 );obtain⟨m,y⟩:=iC ((jF t).1.2.2 );obtain⟨is,z⟩:=iC ((jF t).2 );rw[D,q,u,v]at O;rw[g1,g2,y,z]at P;rw[q,u,v]at B;rw[g2,y,z]at C;rw[D,q,u,v,g1,g2,y,z]at o;have g:=ag (And.intro B C);clear D q u v g1 g2 y z hs N A B C;go_enter Tryz.func167,Tryz.ntmps167
 go_upto_region 2 with(go_at_call 154;refine O.1.mono ?_;rintro e d ⟨Q,sl,rfl,E⟩;obtain⟨p,c,rfl⟩:=E.slice;have F:=ag (And.intro Q E);clear Q E)
 obtain⟨n,G⟩:=iC (d.alloc (.cells #[.bool k,.slice p L.length c,.int .i64 ex] 219))
 have h:PLift (aH w.heap.size w n/\kQ n (.slice p L.length c) L/\n.heap[d.heap.size]?=ax (.cells #[.bool k,.slice p L.length c,.int .i64 ex] 219)):=⟨by rw[<-G];exact⟨F.1.1.trans ((iW d _).mono F.1.1.size),F.1.2.below (iW d _),aI d _⟩⟩
 rw[G];clear G
 go_upto_region 3 with(go_at_call 154;refine(P.1 _ h.1.1).mono ?_;rintro e f ⟨R,W,rfl,H⟩;obtain⟨i,j,rfl⟩:=H.slice;have I:=ag (And.intro R H);clear R H)
 obtain⟨a,J⟩:=iC (f.alloc (.cells #[.bool l,.slice i M.length j,.int .i64 m] 219))
 have b:PLift (aH w.heap.size w a/\kQ a (.slice p L.length c) L/\kQ a (.slice i M.length j) M/\a.heap[d.heap.size]?=ax (.cells #[.bool k,.slice p L.length c,.int .i64 ex] 219)/\a.heap[f.heap.size]?=ax (.cells #[.bool l,.slice i M.length j,.int .i64 m] 219)):=⟨by rw[<-J];have K:=I.1.1.trans ((iW f (.cells #[.bool l,.slice i M.length j,.int .i64 m] 219)).mono I.1.1.size);exact⟨h.1.1.trans (K.mono h.1.1.size),h.1.2.1.below K,I.1.2.below (iW f _),(K.block _ (az.1 h.1.2.2).1).trans h.1.2.2,aI f _⟩⟩
 rw[J];clear J;have Y:a.cell? ⟨d.heap.size,0,au⟩=ax (.bool k):=af b.1.2.2.2.1 0;have Z:a.cell? ⟨d.heap.size,1,au⟩=ax (.slice p L.length c):=af b.1.2.2.2.1 1;have aa:a.cell? ⟨d.heap.size,2,au⟩=ax (.int .i64 ex):=af b.1.2.2.2.1 2;have ab:a.cell? ⟨f.heap.size,0,au⟩=ax (.bool l):=af b.1.2.2.2.2 0;have ac:a.cell? ⟨f.heap.size,1,au⟩=ax (.slice i M.length j):=af b.1.2.2.2.2 1;have ad:a.cell? ⟨f.heap.size,2,au⟩=ax (.int .i64 m):=af b.1.2.2.2.2 2;cases ok with
 |false=>go_wp2;go_ret;exact⟨by rw[o.1];rfl,b.1.1⟩
 |true=>
  cases is with
  |false=>go_wp2;go_ret;exact⟨by rw[o.1];rfl,b.1.1⟩
  |true=>
   have U:=ag (Q4 k l (.slice p L.length c) (.slice i M.length j) ex m L M a b.1.2.1 b.1.2.2.1 (g.1.1 rfl).1 (g.1.2 rfl).1 (g.1.1 rfl).2.1 (g.1.1 rfl).2.2 (g.1.2 rfl).2.1 (g.1.2 rfl).2.2)
   go_wp2_with(go_at_call 192;refine U.1.mono ?_;rintro e w3 ⟨rfl,S⟩;have V:=ag S;clear S)
   go_ret;exact⟨by rw[o.1];rfl,b.1.1.trans (V.1.mono b.1.1.size)⟩
def uI (w:aC)(s:aV)(L:List UInt8):Prop:=∃g c,s=.slice (ax ⟨g,0,au⟩) L.length c/\L.length<=c/\c<=400/\∀j x,L[j]?=ax x->w.cell? ⟨g,j,au⟩=ax (.int .u8 ((x.toNat:Int)))
theorem uI.below {w w':aC}{s:aV}{L:List UInt8}(h:uI w s L)(a:aH w.heap.size w w'):uI w' s L:=by obtain⟨g,c,b,d,e,f⟩:=h;exact⟨g,c,b,d,e,λj x hx=>bU a (f j x hx)⟩
def uJ (L M:List UInt8):Nat->Int
 |0=>0
 |n+1=>if(L.getD n 0).toNat=(M.getD n 0).toNat then uJ L M n else if(L.getD n 0).toNat<(M.getD n 0).toNat then -1 else 1
def yQ (L M:List UInt8):Int:=if L.length=M.length then uJ L M L.length else if L.length<M.length then -1 else 1
theorem JI (s t:aV)(L M:List UInt8)(w:aC)(F:uI w s L)(G:uI w t M):
  aX aN 191 #[s,t] w λr w'=>r=.returned (.int .i64 (yQ L M))/\aH w.heap.size w w':=by
 obtain⟨g,c,rfl,H,R,z⟩:=F;obtain⟨g',S,rfl,I,T,A⟩:=G;have J:(L.length:Int)<=400:=iE
 have K:(M.length:Int)<=400:=iE
 have B:=ag (And.intro z A);have e:=ag (show yQ L M=if L.length=M.length then uJ L M L.length else if L.length<M.length then -1 else 1 from rfl);clear z A;by_cases h:L.length=M.length
 ·have e:=ag (e.1.trans (gY h))
  rw[<-h];have C:=ag h;obtain⟨n,hn⟩:=iC L.length;rw[hn]at C;rw[hn]at H J e⊢;have N:=ag hn;clear h hn I K;go_enter dh,bW
  go_upto_region 6 with fail
  go_loopw [5] (λp wr=>∃i:Nat,p=.int .i64 ((i:Int) - 1)/\i<=n/\uJ L M i=uJ L M n/\aH w.heap.size w wr) (λp _=>(intOf p+1).toNat)
  case atStart=>exact⟨n,by go_num,aK _,rfl,aJ _ _⟩
  case round=>
   obtain⟨i,rfl,q,m,l⟩:=hrel;have j:=ag l;cases i with
   |zero=>have d:=ag (show uJ L M n=0 from m.symm);have f:¬(0:Int)<=((0:Nat):Int) - 1:=iE;clear m l q;go_wp2;go_ret;exact⟨by rw[e.1,d.1];rfl,j.1⟩
   |succ k=>
    have U:(k:Int)<(n:Int):=iE;have V:(0:Int)<=(k:Int):=iE;have e1:((k+1:Nat):Int) - 1=(k:Int):=iE;rw[e1];obtain⟨a,ha⟩:=iC ((L.getD k 0));obtain⟨b,u⟩:=iC ((M.getD k 0));have D:L[k]?=ax a:=(by rw[<-ha,aY,bz (by have:=N.1;omega)];rfl);have E:M[k]?=ax b:=(by rw[<-u,aY,bz (by have:=C.1;omega)];rfl);have ca:wr.cell? ⟨g,k,au⟩=ax (.int .u8 (a.toNat:Int)):=bU l (B.1.1 k a D);have O:wr.cell? ⟨g',k,au⟩=ax (.int .u8 (b.toNat:Int)):=bU l (B.1.2 k b E)
    have d:PLift (uJ L M n=if a.toNat=b.toNat then uJ L M k else if a.toNat<b.toNat then -1 else 1):=⟨by rw[<-m];show(if(L.getD k 0).toNat=(M.getD k 0).toNat then uJ L M k else if(L.getD k 0).toNat<(M.getD k 0).toNat then -1 else 1)=_;rw[ha,u]⟩
    have P:=ag q;obtain⟨x,hx⟩:∃x:Nat,a.toNat=x:=⟨_,rfl⟩;obtain⟨y,hy⟩:∃y:Nat,b.toNat=y:=⟨_,rfl⟩;rw[hx]at ca d;rw[hy]at O d;clear m l q ha u D E hx hy e1;by_cases o:x=y
    ·subst o
     have d:=ag (d.1.trans (gY rfl))
     go_upto_region 8 with fail
     go_big_quiet (fail)
     go_wp2;go_roundw
     case rel=>exact⟨k,by go_num,by have:=P.1;omega,d.1.symm,by first|exact j.1|exact j.1.trans ⟨rfl,rfl,rfl,aK _,λ_ _=>rfl⟩⟩
     case measure=>simp[intOf]
    ·have d:=ag (d.1.trans (gZ o))
     have Q:((x:Int)==(y:Int))=aB:=iI;by_cases f:x<y
     ·have d:=ag (d.1.trans (gY f))
      have v:(x:Int)<(y:Int):=iE;clear o f
      go_upto_region 8 with fail
      go_big_quiet (fail)
      go_upto_region 9 with fail
      go_big_quiet (fail)
      go_wp2;go_ret;exact⟨by rw[e.1,d.1];rfl,by first|exact j.1|exact j.1.trans ⟨rfl,rfl,rfl,aK _,λ_ _=>rfl⟩⟩
     ·have d:=ag (d.1.trans (gZ f))
      have v:¬(x:Int)<(y:Int):=iE;clear o f
      go_upto_region 8 with fail
      go_big_quiet (fail)
      go_upto_region 9 with fail
      go_big_quiet (fail)
      go_wp2;go_ret;exact⟨by rw[e.1,d.1];rfl,by first|exact j.1|exact j.1.trans ⟨rfl,rfl,rfl,aK _,λ_ _=>rfl⟩⟩
 ·have e:=ag (e.1.trans (gZ h))
  have Q:((L.length:Int)==(M.length:Int))=aB:=iI
  by_cases f:L.length<M.length
  ·have e:=ag (e.1.trans (gY f))
   have v:(L.length:Int)<(M.length:Int):=iE;clear h f;go_enter dh,bW;go_wp2;go_ret;exact⟨by rw[e.1];rfl,aJ _ _⟩
  ·have e:=ag (e.1.trans (gZ f))
   have v:¬(L.length:Int)<(M.length:Int):=iE;clear h f;go_enter dh,bW;go_wp2;go_ret;exact⟨by rw[e.1];rfl,aJ _ _⟩
def kM (s:ByteArray):(Bool×List UInt8)×Bool:=match kP s.data.toList with
 |none=>((aB,[]),aB)
 |some r=>(r,bn)
theorem JJ (s:ByteArray)(hs:s.size<=maxLen)(w:aC):
  aX aN 153 #[.string s] w λr w'=>aH w.heap.size w w'/\∃p n c,r=.returned (.tuple #[.agg #[.bool (kM s).1.1,.slice p n c],.bool (kM s).2])/\((kM s).2 =bn->uI w' (.slice p n c) (kM s).1.2):=by
 refine(Ha s w hs).mono ?_;rintro r w' ⟨a,h⟩;refine⟨a,?_⟩;unfold pz at h;unfold kM;cases hr:kP s.data.toList with
 |none=>rw[hr]at h;exact⟨au,0,0,h,λh=>by cases h⟩
 |some x=>obtain⟨i,ds⟩:=x;rw[hr]at h;obtain⟨g,c,b,_,d,e,f⟩:=h;exact⟨_,_,_,b,λ_=>⟨g,c,rfl,d,e,f⟩⟩
def ET (s t:ByteArray):Int:=
 if(kM s).2 &&(kM t).2 then
  (if(kM s).1.1 then(if(kM t).1.1 then yQ (kM t).1.2 (kM s).1.2 else -1)else(if(kM t).1.1 then 1 else yQ (kM s).1.2 (kM t).1.2))
 else 0
theorem UI (s t:ByteArray)(hs:s.size<=maxLen)(I:t.size<=maxLen)(w:aC):
  aX aN 166 #[.string s,.string t] w λr w'=>r=.returned (.int .i64 (ET s t))/\aH w.heap.size w w':=by
 have J:=ag (JJ s hs w);have K:=ag (λ(X:aC)=>JJ t I X)
 have f:=ag (show ET s t=if(kM s).2 &&(kM t).2 then
  (if(kM s).1.1 then(if(kM t).1.1 then yQ (kM t).1.2 (kM s).1.2 else -1)else(if(kM t).1.1 then 1 else yQ (kM s).1.2 (kM t).1.2))
  else 0 from rfl)
 obtain⟨j,v⟩:=iC ((kM s).1.1 );obtain⟨L,y⟩:=iC ((kM s).1.2 );obtain⟨ok,z⟩:=iC ((kM s).2 );obtain⟨i,g1⟩:=iC ((kM t).1.1 );obtain⟨M,g2⟩:=iC ((kM t).1.2 );obtain⟨is,A⟩:=iC ((kM t).2 );rw[v,y,z]at J;rw[g1,g2,A]at K;rw[v,y,z,g1,g2,A]at f;clear v y z g1 g2 A hs I;go_enter Tryz.func166,Tryz.ntmps166
 go_upto_region 2 with(go_at_call 153;refine J.1.mono ?_;rintro e d ⟨N,p,n,c,rfl,O⟩;have B:=ag (And.intro N O);clear N O)
 obtain⟨k,C⟩:=iC (d.alloc (.cells #[.bool j,.slice p n c] 215))
 have l:PLift (aH w.heap.size w k/\(ok=bn->uI k (.slice p n c) L)/\k.heap[d.heap.size]?=ax (.cells #[.bool j,.slice p n c] 215)):=⟨by rw[<-C];exact⟨B.1.1.trans ((iW d _).mono B.1.1.size),λh=>(B.1.2 h).below (iW d _),aI d _⟩⟩
 rw[C];clear C
 go_upto_region 3 with(go_at_call 153;refine(K.1 _).mono ?_;rintro e g ⟨P,m,o,q,rfl,Q⟩;have D:=ag (And.intro P Q);clear P Q)
 obtain⟨b,E⟩:=iC (g.alloc (.cells #[.bool i,.slice m o q] 215))
 have a:PLift (aH w.heap.size w b/\(ok=bn->uI b (.slice p n c) L)/\(is=bn->uI b (.slice m o q) M)/\b.heap[d.heap.size]?=ax (.cells #[.bool j,.slice p n c] 215)/\b.heap[g.heap.size]?=ax (.cells #[.bool i,.slice m o q] 215)):=⟨by rw[<-E];have F:=D.1.1.trans ((iW g (.cells #[.bool i,.slice m o q] 215)).mono D.1.1.size);exact⟨l.1.1.trans (F.mono l.1.1.size),λh=>(l.1.2.1 h).below F,λh=>(D.1.2 h).below (iW g _),(F.block _ (az.1 l.1.2.2).1).trans l.1.2.2,aI g _⟩⟩
 rw[E];clear E;have R:b.cell? ⟨d.heap.size,0,au⟩=ax (.bool j):=af a.1.2.2.2.1 0;have S:b.cell? ⟨d.heap.size,1,au⟩=ax (.slice p n c):=af a.1.2.2.2.1 1;have T:b.cell? ⟨g.heap.size,0,au⟩=ax (.bool i):=af a.1.2.2.2.2 0;have U:b.cell? ⟨g.heap.size,1,au⟩=ax (.slice m o q):=af a.1.2.2.2.2 1;cases ok with
 |false=>go_wp2;go_ret;exact⟨by rw[f.1];rfl,a.1.1⟩
 |true=>
  cases is with
  |false=>go_wp2;go_ret;exact⟨by rw[f.1];rfl,a.1.1⟩
  |true=>
   cases j with
   |true=>
    cases i with
    |false=>go_wp2;go_ret;exact⟨by rw[f.1];rfl,a.1.1⟩
    |true=>
     have G:=ag (JI _ _ M L b (a.1.2.2.1 rfl) (a.1.2.1 rfl))
     go_wp2_with(go_at_call 191;refine G.1.mono ?_;rintro e w3 ⟨rfl,u⟩;have H:=ag u;clear u)
     go_ret;exact⟨by rw[f.1];rfl,a.1.1.trans (H.1.mono a.1.1.size)⟩
   |false=>
    cases i with
    |true=>go_wp2;go_ret;exact⟨by rw[f.1];rfl,a.1.1⟩
    |false=>
     have G:=ag (JI _ _ L M b (a.1.2.1 rfl) (a.1.2.2.1 rfl))
     go_wp2_with(go_at_call 191;refine G.1.mono ?_;rintro e w3 ⟨rfl,u⟩;have H:=ag u;clear u)
     go_ret;exact⟨by rw[f.1];rfl,a.1.1.trans (H.1.mono a.1.1.size)⟩
end Go.Proofs.YthcalnnipjflkaaGreatDoor
