import Derived.Test.YthcalnnipjflkaaGreatDoorP06
open Go.Lib renaming hid -> ae, cell_of_heap -> ag, frozen_of_heap -> aH
open Option renaming none -> af, some -> aj
open Go.IntWalk renaming i64_in -> ah
open Bool renaming false -> au, true -> aA
open Go renaming Value -> ax, World -> ay, Calls -> aC
open Go.Value renaming int -> az
open Go.Proofs.Tryz renaming prog -> aB, ntmps36 -> aI, func36 -> aJ, ntmps35 -> aK, func35 -> aN
set_option linter.all false
set_option maxHeartbeats 1000000
set_option maxRecDepth 100000
namespace Go.Proofs.YthcalnnipjflkaaGreatDoor
open Go.RowKit
open Go.Lib hiding intOf
def uK (sc:Int->ByteArray->Bool)(n:Nd):Bool:=
 if n.kind=9 then decide (n.text.size=0)&&!n.ord&&decide (n.keys.length=0)
 else if n.kind=10 then decide (n.text.size=0)&&decide (n.keys.length=n.items.length)
 else if n.kind=11 then qO n.text.data.toList&&!n.ord&&decide (n.keys.length=0)&&decide (n.items.length=1)
 else !n.ord&&decide (n.keys.length=0)&&decide (n.items.length=0)&&sc n.kind n.text
def UO (w:ay)(v:ax)(n:Nd):Prop:=∃a b,v=.agg #[.int .i64 n.kind,.string n.text,.bool n.ord,a,b]/\rZ w a n.keys/\rZ w b n.items
theorem UQ (t:ByteArray):t.toList.isEmpty=decide (t.size=0):=by
 rw[Lib.toList_data];have e:t.data.toList.length=t.size:=iH
 by_cases h:t.size=0
 ·rw[h]at e
  rw[List.length_eq_zero_iff.1 e];simp[h]
 ·cases a:t.data.toList with
  |nil=>rw[a]at e;exact absurd e.symm h
  |cons x xs=>simp[h]
def wrt (op:Int)(a b:ax)(tx:ByteArray)(i j t:Nat):Obj:=.cells #[.int .i64 op,a,b,.string tx,.int .i64 i,.int .i64 j,.int .i64 t] 76
theorem tZ {w:ay}{b k:Nat}{a:Array ax}{T:TypeId}{c:Nat×Nat}(h:w.heap[b]?=aj (.cells a T c))(v:ax):(w.setCell ⟨b,k,af⟩ v).heap[b]?=aj (.cells (a.setIfInBounds k v) T c):=by simp[World.setCell,Array.getElem?_modify,h]
theorem afC (w:ay)(a b:Nat)(p:Addr)(v:ax):((w.drewN a).setCell p v).drewN b=(w.setCell p v).drewN (a+b):=by simp[World.drewN,World.setCell,Nat.add_assoc]
theorem DY {w:ay}{b k c:Nat}(v:ax)(h:c≠b):(w.setCell ⟨b,k,af⟩ v).heap[c]?=w.heap[c]?:=by simp[World.setCell,Array.getElem?_modify,Ne.symm h]
theorem afk {w:ay}{b k:Nat}(v:ax){c:Nat}(h:c≠b)(o:Nat):(w.setCell ⟨b,k,af⟩ v).cell? ⟨c,o,af⟩=w.cell? ⟨c,o,af⟩:=by unfold World.cell?;rw[DY _ h]
theorem Tabs.setCell {w:ay}(h:Tabs w){b:Nat}(d:1≠b)(a:2≠b)(k:Nat)(v:ax):Tabs (w.setCell ⟨b,k,af⟩ v):=
 ⟨λc hc=>by rw[afk _ d];exact h.1 c hc,λi hi=>by rw[afk _ a,afk _ a];exact h.2 i hi⟩
theorem agi (w:ay)(b:Nat)(op:Int)(na:Option Addr)(c:Nat)(d:ax)(tx:ByteArray)(i j t:Nat)(a:w.heap[b]?=aj (wrt op (.slice na i c) d tx i j t)):
  aC aB 35 #[.pointer (aj ⟨b,0,af⟩)] w λe w'=>e=.returned (.tuple #[.string ⟨#[]⟩,.bool au])/\∃n,w'=w.drewN n:=by
 have f:w.cell? ⟨b,1,af⟩=aj (.slice na i c):=by rw[ag a];rfl
 have g:w.cell? ⟨b,4,af⟩=aj (.int .i64 i):=by rw[ag a];rfl
 clear a;go_enter aN,aK;go_wp2
 go_quiet (fail)
 go_wp2;go_ret2;exact⟨rfl,nq,rfl⟩
theorem agj (w:ay)(b:Nat)(op:Int)(nb no a d:Nat)(g:ax)(tx s:ByteArray)(i j t:Nat)(c:w.heap[b]?=aj (wrt op (.slice (aj ⟨nb,no,af⟩) a d) g tx i j t))(hi:i<a)(f:a<=maxLen)
  (hs:w.cell? ⟨nb,no+i,af⟩=aj (.string s))(h:nb≠b):
  aC aB 35 #[.pointer (aj ⟨b,0,af⟩)] w λe w'=>e=.returned (.tuple #[.string s,.bool aA])/\∃n,w'=(w.setCell ⟨b,4,af⟩ (.int .i64 ((i:Int)+1))).drewN n:=by
 unfold maxLen at f;have k:w.cell? ⟨b,1,af⟩=aj (.slice (aj ⟨nb,no,af⟩) a d):=by rw[ag c];rfl
 have l:w.cell? ⟨b,4,af⟩=aj (.int .i64 i):=by rw[ag c];rfl
 have m:=aH c 4;have ne:((i:Int)==(a:Int))=au:=iI
 have b1:IntKind.i64.wrap ((i:Int)+1)=(i:Int)+1:=ah _ iE
 have o:(w.setCell ⟨b,4,af⟩ (.int .i64 ((i:Int)+1))).cell? ⟨b,1,af⟩=aj (.slice (aj ⟨nb,no,af⟩) a d):=by rw[ag (tZ c _)];rfl
 have p:(w.setCell ⟨b,4,af⟩ (.int .i64 ((i:Int)+1))).cell? ⟨b,4,af⟩=aj (.int .i64 ((i:Int)+1)):=by rw[ag (tZ c _)];rfl
 have ds:(w.setCell ⟨b,4,af⟩ (.int .i64 ((i:Int)+1))).cell? ⟨nb,no+i,af⟩=aj (.string s):=by rw[<-hs];unfold World.cell?;rw[DY _ h]
 have b2:IntKind.i64.wrap ((i:Int)+1 - 1)=(i:Int):=by rw[show(i:Int)+1 - 1=i by omega];exact ah _ iE
 have b3:(i:Int)+1 - 1=i:=iE
 have q:IntKind.i64.wrap (i:Int)=i:=ah _ iE;have r:(0:Int)<=i:=iE
 have u:(i:Int)<a:=iE
 clear c hi f;go_enter aN,aK;go_wp2
 go_quiet (fail)
 go_wp2
 go_quiet (fail)
 go_wp2;go_ret2;exact⟨rfl,_,afC _ _ _ _ _⟩
theorem agk (w:ay)(b:Nat)(op:Int)(h k:ax)(tx:ByteArray)(i j t:Nat)(a:w.heap[b]?=aj (wrt op h k tx i j t))(l:t<1000)(c:tx.size<=35184372088000)(d:Tabs w)(f:1≠b)(g:2≠b):
  aC aB 29 #[.pointer (aj ⟨b,0,af⟩)] w λe w'=>e=.returned (.tuple #[.string ⟨(34::qb tx.data.toList++[34]).toArray⟩,.bool aA])/\Below (w.setCell ⟨b,6,af⟩ (.int .i64 ((t:Int)+1))).heap.size (w.setCell ⟨b,6,af⟩ (.int .i64 ((t:Int)+1))) w':=by
 have p:w.cell? ⟨b,6,af⟩=aj (.int .i64 t):=by rw[ag a];rfl
 have q:=aH a 6
 have r:(w.setCell ⟨b,6,af⟩ (.int .i64 ((t:Int)+1))).cell? ⟨b,3,af⟩=aj (.string tx):=by rw[ag (tZ a _)];rfl
 have b1:IntKind.i64.wrap ((t:Int)+1)=(t:Int)+1:=ah _ iE;have m:Hid (Tabs (w.setCell ⟨b,6,af⟩ (.int .i64 ((t:Int)+1)))):=d.setCell f g _ _;have n:=ae c;clear a l c d f g;go_enter Tryz.func29,Tryz.ntmps29
 go_wp2_with(go_at_call 38;refine(afB _ _ n.out m.out).mono ?_;rintro e s ⟨rfl,o⟩)
 go_ret2;exact⟨rfl,o⟩
def tY (l:List UInt8):ax:=
 match l with
 |34::r=>match uq r with
  |some (t,rest)=>.tuple #[.string ⟨t.toArray⟩,.int .i64 ((l.length:Int) - rest.length),.bool aA]
  |none=>.tuple #[.string ⟨#[]⟩,.int .i64 0,.bool au]
 |_=>.tuple #[.string ⟨#[]⟩,.int .i64 0,.bool au]
def xY (l:List UInt8)(i:Nat)(acc:List UInt8):Prop:=1<=i/\i<=l.length/\acc.length<=i/\l.head?=aj 34/\uq (l.drop 1)=(uq (l.drop i)).map λp=>(acc++p.1,p.2)
def Gn:ax:=.tuple #[.string ⟨#[]⟩,.int .i64 0,.bool au]
theorem zi {l:List UInt8}(h:l.head?=aj 34):l=34::l.drop 1:=by
 cases l with
 |nil=>cases h
 |cons c r=>simp at h;subst h;rfl
theorem vG {l acc:List UInt8}{i:Nat}(h:xY l i acc)(a:uq (l.drop i)=af):tY l=Gn:=by
 have e:=h.2.2.2.2;rw[a]at e;rw[zi h.2.2.2.1];simp only[tY];rw[e]
 rfl
theorem NR {l acc:List UInt8}{i:Nat}(h:xY l i acc)(hi:i<l.length)(hc:l[i]=34):tY l=.tuple #[.string ⟨acc.toArray⟩,.int .i64 ((i:Int)+1),.bool aA]:=by
 have e:=h.2.2.2.2
 have e1:uq (l.drop i)=aj ([],l.drop (i+1)):=by rw[drop_cons hi,hc];unfold uq;rw[gY rfl]
 rw[e1]at e;rw[zi h.2.2.2.1];simp only[tY];rw[e];simp only[Option.map_some,List.append_nil];have a:(34::l.drop 1).length=l.length:=by rw[<-zi h.2.2.2.1]
 rw[a,List.length_drop]
 congr 1
 have:((l.length:Int) - ((l.length - (i+1):Nat):Int))=(i:Int)+1:=iE
 rw[this]
theorem wR {l acc:List UInt8}{i j:Nat}(h:xY l i acc)(c:UInt8)(a:j<=l.length)(f:i<j)(b:uq (l.drop i)=(uq (l.drop j)).map λp=>(c::p.1,p.2)):xY l j (acc++[c]):=by
 obtain⟨g,k,m,d,e⟩:=h;refine⟨iE,a,iI,d,?_⟩;rw[e,b,Option.map_map]
 congr 1
 funext p
 simp
theorem NS {l:List UInt8}(h:l.head?=aj 34):xY l 1 []:=by refine⟨Nat.le_refl _,by rw[zi h];simp,iH,h,?_⟩;cases uq (l.drop 1)<;>simp
theorem Gp {l:List UInt8}(h:l.head?≠aj 34):tY l=Gn:=by
 unfold tY;split
 ·simp at h
 ·rfl
theorem Gq (c:UInt8):indexByte [48,49,50,51,52,53,54,55,56,57,97,98,99,100,101,102] c=if jE c=16 then -1 else((jE c).toNat:Int):=
 vz (p:=λc=>indexByte [48,49,50,51,52,53,54,55,56,57,97,98,99,100,101,102] c=if jE c=16 then -1 else((jE c).toNat:Int)) (by decide+kernel) c
theorem Gs (c:UInt8)(h:jE c≠16):(jE c).toNat<16:=
 vz (p:=λc=>jE c≠16->(jE c).toNat<16) (by decide+kernel) c h
theorem zk (c:UInt8)(w:ay)(h:jE c≠16):aC aB 41 #[.int .u8 c.toNat] w λe w'=>e=.returned (.int .i64 ((jE c).toNat:Int))/\w=w':=by
 refine(F8 _ w).mono ?_;rintro e w' ⟨rfl,rfl⟩;refine⟨AQ ?_,rfl⟩;have:((c.toNat:Int).toNat.toUInt8)=c:=iH
 rw[this,Gq,gZ h]
theorem Gt (c:UInt8)(w:ay)(h:jE c=16):aC aB 41 #[.int .u8 c.toNat] w λe w'=>e=.returned (.int .i64 (-1))/\w=w':=by
 refine(F8 _ w).mono ?_;rintro e w' ⟨rfl,rfl⟩;refine⟨AQ ?_,rfl⟩;have:((c.toNat:Int).toNat.toUInt8)=c:=iH
 rw[this,Gq,gY h]
theorem Calls.Gu {P:Program}{f:FuncId}{args:Array ax}{w:ay}{v:ax}(h:aC P f args w λe w'=>e=.returned v/\w=w'):aC P f args w λe w'=>e=.returned v/\w'=w:=h.mono λ_ _ ⟨a,b⟩=>⟨a,b.symm⟩
theorem NT {c:UInt8}{r:List UInt8}(a:c≠34)(b:¬(c<32\/c=127))(d:c≠92):uq (c::r)=(uq r).map λp=>(c::p.1,p.2):=by
 conv=>lhs;unfold uq
 rw[gZ a,gZ b,gY d]
theorem Gv {c:UInt8}{r:List UInt8}(a:c≠34)(b:c<32\/c=127):uq (c::r)=af:=by unfold uq;rw[gZ a,gY b]
theorem NU:uq [92]=af:=by rfl
theorem Gw {e:UInt8}{r:List UInt8}(h:e=92\/e=34):uq (92::e::r)=(uq r).map λp=>(e::p.1,p.2):=by
 conv=>lhs;unfold uq
 rw[gZ iG,gZ iG,gZ iG];simp only[gY h]
theorem NV (r:List UInt8):uq (92::110::r)=(uq r).map λp=>(10::p.1,p.2):=by
 conv=>lhs;unfold uq
 rfl
theorem NW (r:List UInt8):uq (92::114::r)=(uq r).map λp=>(13::p.1,p.2):=by
 conv=>lhs;unfold uq
 rfl
theorem NY (r:List UInt8):uq (92::116::r)=(uq r).map λp=>(9::p.1,p.2):=by
 conv=>lhs;unfold uq
 rfl
theorem NZ {r:List UInt8}(h:r.length<2):uq (92::120::r)=af:=by
 rcases r with _|⟨a,_|⟨b,r⟩⟩
 ·rfl
 ·rfl
 ·simp at h;omega
theorem Gx {a b:UInt8}{r:List UInt8}(h:jE a=16\/jE b=16):uq (92::120::a::b::r)=af:=by unfold uq;rw[gZ iG,gZ iG,gZ iG];simp only[show ¬((120:UInt8)=92\/(120:UInt8)=34) by decide,if_false,show ¬(120:UInt8)=110 by decide,show ¬(120:UInt8)=114 by decide,show ¬(120:UInt8)=116 by decide,if_true,gY h]
theorem N7 {a b:UInt8}{r:List UInt8}(ha:¬jE a=16)(c:¬jE b=16):uq (92::120::a::b::r)=(uq r).map λp=>((16*jE a+jE b)::p.1,p.2):=by
 conv=>lhs;unfold uq
 rw[gZ iG,gZ iG,gZ iG];simp only[show ¬((120:UInt8)=92\/(120:UInt8)=34) by decide,if_false,show ¬(120:UInt8)=110 by decide,show ¬(120:UInt8)=114 by decide,show ¬(120:UInt8)=116 by decide,if_true,ha,c,or_self]
theorem N8 {e:UInt8}{r:List UInt8}(a:e≠92)(b:e≠34)(c:e≠110)(d:e≠114)(f:e≠116)(g:e≠120):uq (92::e::r)=af:=by unfold uq;rw[gZ iG,gZ iG,gZ iG];simp only[a,b,or_self,if_false,c,d,f,g]
theorem DX (s:ByteArray)(w:ay)(hs:s.size<=35184372088000):
  aC aB 36 #[.string s] w λe w'=>e=.returned (tY s.data.toList)/\Below w.heap.size w w':=by
 have ak:s.data.toList.length=s.size:=iH
 by_cases Y:s.size=0
 ·obtain rfl:s=⟨#[]⟩:=by
   have:s.data.size=0:=Y;exact ext_list (by simp[Array.eq_empty_of_size_eq_zero this])
  go_enter aJ,aI;go_wp2;go_ret3;exact⟨rfl,Below.refl _ _⟩
 have Z:¬s.toList=[]:=λe=>by have:=(toList_nil_iff_emptyBytes s).1 e;subst this;exact Y rfl
 have al:s.toList.isEmpty=au:=by
  cases h:s.toList with
  |nil=>exact absurd h Z
  |cons x r=>rfl
 have a6:0<s.size:=iE
 have R:s.data.toList.head?=aj s[0]:=by rw[List.head?_eq_getElem?,List.getElem?_eq_getElem iE];rfl
 by_cases K:s[0]=34
 ·have aa:=ae (NS (l:=s.data.toList) (by rw[R,K]))
  have g0:((s[0].toNat:Int)!=34)=au:=by rw[K];rfl
  clear R K;go_enter aJ,aI;go_wp2
  go_loopw [5,6] (λb i wr=>∃(k:Nat) (acc:List UInt8),i=.int .i64 k/\OwnB w.heap.size b acc wr/\Below w.heap.size w wr/\xY s.data.toList k acc) (λ_ i _=>s.size - (intOf i).toNat)
  case atStart=>exact⟨1,[],rfl,OwnB.nil _ _,Below.refl _ _,aa.out⟩
  case round=>
   obtain⟨k,acc,rfl,g,U,a⟩:=hrel;have F:=U.size;have a7:=a.1;have am:=a.2.1;have a8:=a.2.2.1;rw[ak]at am;have n:=ae U;have G:=ae g;clear U aa g0 Z al;by_cases a9:k<s.size
   ·have V:k<s.data.toList.length:=iE
    have m:(s.data.toList)[k]'V=s[k]:=rfl
    have hd:=drop_cons V;rw[m]at hd
    have f:∀(c b:UInt8),c≠b->((c.toNat:Int)==(b.toNat:Int))=au:=λc b h=>by simp only[iy,ne_eq,Int.ofNat_inj];exact λe=>h (UInt8.toNat_inj.1 e)
    have o:∀c:UInt8,¬c<32->¬(c.toNat:Int)<32:=λc h e=>h (by show c.toNat<32;omega)
    have ba:IntKind.i64.wrap ((k:Int)+1)=(k:Int)+1:=ah _ iE;by_cases u:s[k]=34
    ·have an:((s[k].toNat:Int)==34)=aA:=by rw[u];rfl
     have d:=ae (NR a V (by rw[m,u]));obtain⟨bb,cp,rfl⟩:=g.slice;have bc:=F5 g;clear a hd m f o u g;go_wp2;go_ret3;exact⟨by rw[d.out];rfl,n.out⟩
    have an:((s[k].toNat:Int)==34)=au:=f _ 34 u;by_cases C:s[k]<32
    ·have ao:(s[k].toNat:Int)<32:=by
           have:s[k].toNat<32:=C;omega
     have d:=ae (vG a (by rw[hd];exact Gv u (.inl C)));clear a hd m f o u g C;go_wp2;go_ret3;exact⟨by rw[d.out];rfl,n.out⟩
    have ao:=o _ C;by_cases H:s[k]=127
    ·have ap:((s[k].toNat:Int)==127)=aA:=by rw[H];rfl
     have d:=ae (vG a (by rw[hd];exact Gv u (.inr H)));clear a hd m f o u g C H;go_wp2;go_ret3;exact⟨by rw[d.out];rfl,n.out⟩
    have ap:((s[k].toNat:Int)==127)=au:=f _ 127 H;by_cases L:s[k]=92
    ·have aq:((s[k].toNat:Int)!=92)=au:=by rw[L];rfl
     rw[L]at hd;clear u C H L;by_cases bd:k+1<s.size
     ·have ab:k+1<s.data.toList.length:=iE
      have v:(s.data.toList)[k+1]'ab=s[k+1]:=rfl
      have t:=drop_cons ab;rw[v]at t;rw[t]at hd;have be:((k:Int)+1).toNat=k+1:=iE;have ar:((k:Int)+1==(s.size:Int))=au:=iI;have bf:IntKind.i64.wrap ((k:Int)+1+1)=(k:Int)+1+1:=ah _ iE;by_cases y:s[k+1]=92
      ·have av:((s[k+1].toNat:Int)==92)=aA:=by rw[y];rfl
       have d:=ae (wR a s[k+1] (j:=k+2) iE iE (by rw[hd];exact Gw (.inl y)));clear a hd t m v f o g y
       go_wp2_with(first|(at_builtin;refine xR _ rfl _ _ rfl [s[k+1]] rfl G.out _ rfl _ rfl iI F ?_;intro v' A p q))
       go_roundw
       case rel=>exact⟨k+2,_,ig (az .i64) iE,p,n.out.trans q,d.out⟩
       case measure=>simp[intOf];omega
      have av:((s[k+1].toNat:Int)==92)=au:=f _ 92 y;by_cases z:s[k+1]=34
      ·have aw:((s[k+1].toNat:Int)==34)=aA:=by rw[z];rfl
       have d:=ae (wR a s[k+1] (j:=k+2) iE iE (by rw[hd];exact Gw (.inr z)));clear a hd t m v f o g y z
       go_wp2_with(first|(at_builtin;refine xR _ rfl _ _ rfl [s[k+1]] rfl G.out _ rfl _ rfl iI F ?_;intro v' A p q))
       go_roundw
       case rel=>exact⟨k+2,_,ig (az .i64) iE,p,n.out.trans q,d.out⟩
       case measure=>simp[intOf];omega
      have aw:((s[k+1].toNat:Int)==34)=au:=f _ 34 z;by_cases B:s[k+1]=110
      ·have aD:((s[k+1].toNat:Int)==110)=aA:=by rw[B];rfl
       have d:=ae (wR a 10 (j:=k+2) iE iE (by rw[hd,B];exact NV _));clear a hd t m v f o g y z B
       go_wp2_with(first|(at_builtin;refine xR _ rfl _ _ rfl [10] rfl G.out _ rfl _ rfl iI F ?_;intro v' A p q))
       go_roundw
       case rel=>exact⟨k+2,_,ig (az .i64) iE,p,n.out.trans q,d.out⟩
       case measure=>simp[intOf];omega
      have aD:((s[k+1].toNat:Int)==110)=au:=f _ 110 B;by_cases D:s[k+1]=114
      ·have aE:((s[k+1].toNat:Int)==114)=aA:=by rw[D];rfl
       have d:=ae (wR a 13 (j:=k+2) iE iE (by rw[hd,D];exact NW _));clear a hd t m v f o g y z B D
       go_wp2_with(first|(at_builtin;refine xR _ rfl _ _ rfl [13] rfl G.out _ rfl _ rfl iI F ?_;intro v' A p q))
       go_roundw
       case rel=>exact⟨k+2,_,ig (az .i64) iE,p,n.out.trans q,d.out⟩
       case measure=>simp[intOf];omega
      have aE:((s[k+1].toNat:Int)==114)=au:=f _ 114 D;by_cases I:s[k+1]=116
      ·have aG:((s[k+1].toNat:Int)==116)=aA:=by rw[I];rfl
       have d:=ae (wR a 9 (j:=k+2) iE iE (by rw[hd,I];exact NY _));clear a hd t m v f o g y z B D I
       go_wp2_with(first|(at_builtin;refine xR _ rfl _ _ rfl [9] rfl G.out _ rfl _ rfl iI F ?_;intro v' A p q))
       go_roundw
       case rel=>exact⟨k+2,_,ig (az .i64) iE,p,n.out.trans q,d.out⟩
       case measure=>simp[intOf];omega
      have aG:((s[k+1].toNat:Int)==116)=au:=f _ 116 I;by_cases M:s[k+1]=120
      ·have aL:((s[k+1].toNat:Int)==120)=aA:=by rw[M];rfl
       rw[M]at hd;clear y z B D I M;have bg:IntKind.i64.wrap ((k:Int)+1+2)=(k:Int)+1+2:=ah _ iE;have bh:((k:Int)+1+1).toNat=k+2:=iE;have bi:((k:Int)+1+2).toNat=k+3:=iE;by_cases hx:k+3<s.size
       ·have ac:k+2<s.data.toList.length:=iE
        have ad:k+3<s.data.toList.length:=iE;have S:(s.data.toList)[k+2]'ac=s[k+2]:=rfl
        have T:(s.data.toList)[k+3]'ad=s[k+3]:=rfl
        have O:=drop_cons ac;have P:=drop_cons ad;rw[S]at O;rw[T]at P;rw[O,P]at hd;have aM:¬((s.size:Int)<=(k:Int)+1+2):=iE;have bj:(k:Int)+1+1<s.size:=iE;have bk:(k:Int)+1+2<s.size:=iE;by_cases E:jE s[k+2]=16
        ·have d:=ae (vG a (by rw[hd];exact Gx (.inl E)))
         clear a hd t O P m v S T f o g;have J:=ae E;clear E
         go_wp2_with(first|(go_at_call 41;(with_reducible refine(Gt s[k+2] _ J.out).mono ?_);rintro e A ⟨rfl,rfl⟩))
         go_ret3;exact⟨by rw[d.out];rfl,n.out⟩
        by_cases N:jE s[k+3]=16
        ·have d:=ae (vG a (by rw[hd];exact Gx (.inr N)))
         clear a hd t O P m v S T f o g;have J:=ae E;have Q:=ae N;clear E N
         go_wp2_with(first|(go_at_call 41;(with_reducible refine(zk s[k+2] _ J.out).mono ?_);rintro e A ⟨rfl,rfl⟩)|(go_at_call 41;(with_reducible refine(Gt s[k+3] _ Q.out).mono ?_);rintro e w3 ⟨rfl,rfl⟩))
         go_ret3;exact⟨by rw[d.out];rfl,n.out⟩
        ·have d:=ae (wR a (16*jE s[k+2]+jE s[k+3]) (j:=k+4) iE iE (by rw[hd];exact N7 E N))
         clear a hd t O P m v S T f o g;have J:=ae E;have Q:=ae N;clear E N
         go_wp2_with(first|(go_at_call 41;(with_reducible refine(zk s[k+2] _ J.out).mono ?_);rintro e A ⟨rfl,rfl⟩)|(go_at_call 41;(with_reducible refine(zk s[k+3] _ Q.out).mono ?_);rintro e w3 ⟨rfl,rfl⟩))
         have aR:=Gs _ J.out;have a0:=Gs _ Q.out;have a1:IntKind.i64.wrap (16*((jE s[k+2]).toNat:Int))=16*((jE s[k+2]).toNat:Int):=ah _ iE;have a2:IntKind.i64.wrap (16*((jE s[k+2]).toNat:Int)+((jE s[k+3]).toNat:Int))=16*((jE s[k+2]).toNat:Int)+((jE s[k+3]).toNat:Int):=ah _ iE
         have X:((16*jE s[k+2]+jE s[k+3]).toNat:Int)=16*((jE s[k+2]).toNat:Int)+((jE s[k+3]).toNat:Int):=by rw[UInt8.toNat_add,UInt8.toNat_mul,show(16:UInt8).toNat=16 from rfl];omega
         have a3:IntKind.u8.wrap (16*((jE s[k+2]).toNat:Int)+((jE s[k+3]).toNat:Int))=16*((jE s[k+2]).toNat:Int)+((jE s[k+3]).toNat:Int):=by rw[<-X];exact IntWalk.u8_in _ (by have:=(16*jE s[k+2]+jE s[k+3]).toNat_lt;omega)
         have a4:=ae X;clear X aR a0;refine NQ (aF:=?_) 14 _ _ _ [16*jE s[k+2]+jE s[k+3]] rfl iF iF iF rfl rfl rfl rfl rfl rfl iF iF iF iF _ _ rfl G.out iI F ?_ ?_ ?_ ?_ ?_ ?_;rotate_left 1
         ·intro ρ
          simp only[List.take_succ_cons,List.take_zero]
          repeat(go_big_quiet_step((go_at_call 41;first|with_reducible exact Calls.quiet_of_same (Calls.Gu (zk s[k+2] _ J.out))|with_reducible exact Calls.quiet_of_same (Calls.Gu (zk s[k+3] _ Q.out)))))
          refine wpQuiet_nil ?_;exact rfl
         ·intro W
          go_simp;simp only[byteCells,List.map_cons,List.map_nil,a4.out]
         ·intro ai;rfl
         ·intro ai;rfl
         ·intro ai v' W;rfl
         ·clear a1 a2 a3
          intro v' A p q;simp only[Act.put,List.setIfInBounds_toArray,List.set_cons_zero,List.set_cons_succ];go_wp2;go_roundw
          case rel=>exact⟨k+4,_,ig (az .i64) iE,p,n.out.trans q,d.out⟩
          case measure=>simp[intOf];omega
       ·have aM:(s.size:Int)<=(k:Int)+1+2:=iE
        have d:=ae (vG a (by rw[hd];exact NZ (by rw[List.length_drop];omega)));clear a hd t m v f o g;go_wp2;go_ret3;exact⟨by rw[d.out];rfl,n.out⟩
      ·have aL:((s[k+1].toNat:Int)==120)=au:=f _ 120 M
       have d:=ae (vG a (by rw[hd];exact N8 y z B D I M));clear a hd t m v f o g y z B D I M;go_wp2;go_ret3;exact⟨by rw[d.out];rfl,n.out⟩
     ·have e1:k+1=s.size:=iE
      have ar:((k:Int)+1==(s.size:Int))=aA:=iI;have d:=ae (vG a (by rw[hd,List.drop_eq_nil_of_le iE];exact NU));clear a hd m f o g e1;go_wp2;go_ret3;exact⟨by rw[d.out];rfl,n.out⟩
    ·have aq:((s[k].toNat:Int)!=92)=aA:=by
      have e:((s[k].toNat:Int)==92)=au:=f _ 92 L;simp only[bne,e];rfl
     have d:=ae (wR a s[k] (j:=k+1) iE iE (by rw[hd];exact NT u (by rintro(h|h);exact C h;exact H h) L));clear a hd m f o u g C H L
     go_wp2_with(first|(at_builtin;refine xR _ rfl _ _ rfl [s[k]] rfl G.out _ rfl _ rfl iI F ?_;intro v' A p q))
     go_roundw
     case rel=>exact⟨k+1,_,ig (az .i64) iE,p,n.out.trans q,d.out⟩
     case measure=>simp[intOf];omega
   ·have d:=ae (vG a (by rw[List.drop_eq_nil_of_le iE];rfl))
    clear a g;go_wp2;go_ret3;exact⟨by rw[d.out];rfl,n.out⟩
 ·have a5:=ae (Gp (l:=s.data.toList) (by rw[R];simpa using K))
  have g0:((s[0].toNat:Int)!=34)=aA:=by simp only[bne_iff_ne,ne_eq];exact λe=>K (UInt8.toNat_inj.1 (by have e:(34:UInt8).toNat=34:=rfl;omega))
  clear R K;go_enter aJ,aI;go_wp2;go_ret3;exact⟨by rw[a5.out];rfl,Below.refl _ _⟩
