import Derived.Test.YthcalnnipjflkaaGreatDoorP32
import Derived.Maps.AppendAt
open Go.Lib renaming hid -> ae, cell_of_heap -> aC, trimPrefix -> aN, hasPrefix -> aP, trimSuffix -> aX, frozen_of_heap -> aY, hasSuffix -> bI, atoi -> dC
open Go renaming World -> af, Value -> ax, Calls -> aV, toList_nil_iff_emptyBytes -> bu, heap_alloc_new -> bY, Oper -> cu, TypeId -> dh, Ending -> di, Addr -> dn, Program -> dE
open Bool renaming false -> ag, true -> ay
open Option renaming some -> ah, none -> aj, map_map -> bZ
open PLift renaming up -> au
open Go.Proofs.Tryz renaming prog -> az, ntmps59 -> bD, func59 -> bG, underlying23 -> bQ, ntmps42 -> dm, func42 -> dD
open Go.RowKit.Below renaming refl -> aA
open List renaming getElem?_eq_some_iff -> aB, getElem?_eq_getElem -> aH, flatMap_cons -> aK, length_drop -> aO, length_append -> aS, getElem?_take_of_lt -> aT, length_cons -> aU, getElem?_append_right -> bn, getElem?_append_left -> bz, getElem_mem -> bC, drop_eq_nil_of_le -> bF, map_cons -> bH, flatMap_append -> bJ, map_nil -> bP, length -> bT, cons_append -> bU, map_toArray -> bV
open Nat renaming le_refl -> aI, zero_le -> aQ, zero_add -> bK, strongRecOn -> bW, lt_irrefl -> cZ, zero_mul -> dw, succ_pos -> dA, le_trans -> dB
open Go.RowKit renaming Below -> aJ
open UInt8 renaming toNat_inj -> aW
open Array renaming getElem?_eq_some_iff -> aZ
set_option linter.all false
set_option maxHeartbeats 4000000
set_option maxRecDepth 100000
namespace Go.Proofs.YthcalnnipjflkaaGreatDoor
open Go.RowKit
open Go.Lib hiding intOf
theorem Jh (s:ByteArray)(c:UInt8)(r:List UInt8)(w:af)(hs:s.data.toList=c::r)(d:s.size<=100000000)(f:c≠46)(g:c≠123):
  aV az 53 #[.string s] w λe w'=>e=.returned (.tuple #[.string ⟨#[]⟩,.string s,.bool ag])/\aJ w.heap.size w w':=by
 have h:s.size=r.length+1:=by have:=ig bT hs;simpa using this
 have a:0<s.size:=iE
 have b:s[0]'a=c:=by
  have:s.data.toList.getD 0 0=s[0]'a:=lC s 0 a
  rw[<-this,hs];rfl
 have e1:(((s[0]'a).toNat:Int)==46)=ag:=by rw[b];simp only[iy,ne_eq];exact λe=>f (aW.1 (by have e:(46:UInt8).toNat=46:=rfl;omega))
 have j:(((s[0]'a).toNat:Int)!=123)=ay:=by rw[b];simp only[bne_iff_ne,ne_eq];exact λe=>g (aW.1 (by have e:(123:UInt8).toNat=123:=rfl;omega))
 have i:=ae d;clear b hs d h;go_enter Tryz.func53,Tryz.ntmps53
 go_wp2_with(go_at_call 57;refine(I8 _ _ i.out).mono ?_;rintro e k ⟨rfl,rfl⟩)
 go_ret3;exact⟨rfl,aA _ _⟩
def yG (k i:Int)(key:ByteArray):ax:=.agg #[.int .i64 k,.int .i64 i,.string key]
theorem EJ {w a:af}{v0 v1 v2:ax}{T:dh}(h:aJ (w.alloc (.cells #[v0,v1,v2] T)).heap.size (w.alloc (.cells #[v0,v1,v2] T)) a):
  a.cell? ⟨w.heap.size,0,aj⟩=ah v0/\a.cell? ⟨w.heap.size,1,aj⟩=ah v1/\a.cell? ⟨w.heap.size,2,aj⟩=ah v2/\a.frozen? ⟨w.heap.size,0,aj⟩=ag/\a.frozen? ⟨w.heap.size,1,aj⟩=ag/\a.frozen? ⟨w.heap.size,2,aj⟩=ag/\w.heap.size<a.heap.size:=by
 have b:a.heap[w.heap.size]?=ah (.cells #[v0,v1,v2] T):=by rw[h.block w.heap.size iH];exact bY w _
 exact⟨aC b 0,aC b 1,aC b 2,aY b 0,aY b 1,aY b 2,(aZ.1 b).1⟩
theorem Ji (s:ByteArray)(w:af)(c:UInt8)(r:List UInt8)(hs:s.data.toList=c::r)(hc:c≠91)(k rest:ByteArray)(ok:Bool)
  (f:∀w,aV az 53 #[.string s] w λe w'=>e=.returned (.tuple #[.string k,.string rest,.bool ok])/\aJ w.heap.size w w')
  (g:(ok&&aP rest.data.toList [64])=ag):
  aV az 48 #[.string s,.bool ag] w λe w'=>e=.returned (.tuple #[yG 0 0 k,.string rest,.bool ok])/\aJ w.heap.size w w':=by
 have j:s.size=r.length+1:=by have:=ig bT hs;simpa using this
 have a:0<s.size:=iE
 have h:s[0]'a=c:=by
  have:s.data.toList.getD 0 0=s[0]'a:=lC s 0 a
  rw[<-this,hs];rfl
 have e1:(((s[0]'a).toNat:Int)==91)=ag:=by rw[h];simp only[iy,ne_eq];exact λe=>hc (aW.1 (by have e:(91:UInt8).toNat=91:=rfl;omega))
 have l:=ae f
 have m:(ok=ag/\∃b,aP rest.data.toList [64]=b)\/(ok=ay/\aP rest.data.toList [64]=ag):=by
  cases ok
  ·exact .inl ⟨rfl,_,rfl⟩
  ·exact .inr ⟨rfl,by simpa using g⟩
 clear h hs j f g hc;rcases m with⟨rfl,b,n⟩|⟨rfl,n⟩
 all_goals
  go_enter Tryz.func48,Tryz.ntmps48
  go_wp2_with(first
   |(go_at_call 53;refine(l.out _).mono ?_;rintro e q ⟨rfl,d⟩;obtain⟨t,u,x,y,z,A,B⟩:=EJ d;have o:=ae d;clear d)
   |(go_at_call 51;refine(Tryz.strings_CutPrefix _ _ _).mono ?_;rintro e C ⟨rfl,rfl⟩))
  refine bodyPost_ret (v:=.tuple #[yG 0 0 k,.string rest,.bool _]) (by simp only[results,Tryz.results48,yG];go_simp) rfl ⟨rfl,?_⟩;have hw:=((aA w.heap.size w).alloc (aI _) (.cells #[.int .i64 0,.int .i64 0,.string ⟨#[]⟩] 101)).trans (o.out.mono iH);have i:=(((hw.setCell (p:=⟨w.heap.size,0,aj⟩) (aI _) (.int .i64 0)).setCell (p:=⟨w.heap.size,1,aj⟩) (aI _) (.int .i64 0)).setCell (p:=⟨w.heap.size,2,aj⟩) (aI _) (.string k));exact i.alloc i.size _
structure El where
 k:Int
 i:Int
 key:ByteArray
def El.cells (x:El):List ax:=[.int .i64 x.k,.int .i64 x.i,.string x.key]
def El.EK (x:El):List ax:=[.int .i64 x.i,.string x.key]
def yH (B:Nat)(v:ax)(l:List El)(w:af):Prop:=w.ownsRow B 101 3 v l.length (l.flatMap El.cells)
def xx (B:Nat)(v:ax)(l:List El)(w:af):Prop:=w.ownsRow B 99 2 v l.length (l.flatMap El.EK)
theorem S9:(Tryz.prog.info? 101).map (λi=>(i.zero,i.size,i.bytes))=ah (ah (.agg #[.int .i64 0,.int .i64 0,.string ⟨#[]⟩]),3,32):=iF
theorem Tc:(Tryz.prog.info? 99).map (λi=>(i.zero,i.size,i.bytes))=ah (ah (.agg #[.int .i64 0,.string ⟨#[]⟩]),2,24):=iF
theorem Td (a b:Int)(s:ByteArray):∀u∈(#[.int .i64 a,.int .i64 b,.string s]:Array ax).toList,u.oneCell'=ay:=by intro u c;simp at c;rcases c with rfl|rfl|rfl<;>rfl
theorem Tf (b:Int)(s:ByteArray):∀u∈(#[.int .i64 b,.string s]:Array ax).toList,u.oneCell'=ay:=by intro u a;simp at a;rcases a with rfl|rfl<;>rfl
def els (R:List UInt8->El×List UInt8×Bool)(l:List UInt8):Option (List El):=
 if l=[]then ah []else if a:(R l).2.2 =ay/\(R l).2.1.length<l.length then(els R (R l).2.1).map ((R l).1 ::·)else aj
termination_by l.length
decreasing_by exact a.2
def qi (R:List UInt8->El×List UInt8×Bool)(l:List UInt8):List El×Int:=
 if l.length>65536 then([],6)else match els R l with|none=>([],4)|some L=>if L.length>256 then([],7)else(L,0)
def yI (pat:Bool)(R:List UInt8->El×List UInt8×Bool)(D:List UInt8->Prop):Prop:=∀l,D l->l≠[]->
 (∀w,jM w->aV az 48 #[.string ⟨l.toArray⟩,.bool pat] w λe w'=>e=.returned (.tuple #[.agg #[.int .i64 (R l).1.k,.int .i64 (R l).1.i,.string (R l).1.key],.string ⟨(R l).2.1.toArray⟩,.bool (R l).2.2])/\aJ w.heap.size w w')/\
 ((R l).2.2 =ay->(R l).2.1.length<l.length/\D (R l).2.1)
theorem Jj (R:List UInt8->El×List UInt8×Bool):els R []=ah []:=by unfold els;rw[gY rfl]
theorem Jk {R:List UInt8->El×List UInt8×Bool}{l:List UInt8}(h:l≠[])(a:(R l).2.2 =ay)(b:(R l).2.1.length<l.length):els R l=(els R (R l).2.1).map ((R l).1 ::·):=by
 conv=>lhs;unfold els
 rw[gZ h,dif_pos ⟨a,b⟩]
theorem Jl {R:List UInt8->El×List UInt8×Bool}{l:List UInt8}(h:l≠[])(a:(R l).2.2 =ag):els R l=aj:=by
 conv=>lhs;unfold els
 rw[gZ h,dif_neg (by rw[a];simp)]
def Ti (R:List UInt8->El×List UInt8×Bool)(D:List UInt8->Prop)(a:List UInt8)(w wr:af)(l:List UInt8)(L:List El)(b:ax):Prop:=
 D l/\yH w.heap.size b L wr/\aJ w.heap.size w wr/\els R a=(els R l).map (L++·)/\L.length+l.length<=a.length
def strLen:ax->Nat
 |.string s=>s.size
 |_=>0
def Tj (B:Nat)(r:List El×Int)(e:di)(w':af):Prop:=∃v,e=.returned (.tuple #[v,.int .i64 r.2])/\yH B v r.1 w'
theorem Jm {B:Nat}{v:ax}{L:List El}{w:af}(h:yH B v L w):∃a b,v=.slice a L.length b:=by
 rcases h.2 with⟨rfl,c⟩|⟨g,cap,d,rfl,_⟩
 ·rw[c];exact⟨_,_,rfl⟩
 ·exact⟨_,_,rfl⟩
theorem BZ (B:Nat)(w:af):yH B (.slice aj 0 0) [] w:=⟨rfl,.inl ⟨rfl,rfl⟩⟩
theorem Tm {B:Nat}{v:ax}{L:List El}{w:af}(h:xx B v L w):∃a b,v=.slice a L.length b:=by
 rcases h.2 with⟨rfl,c⟩|⟨g,cap,d,rfl,_⟩
 ·rw[c];exact⟨_,_,rfl⟩
 ·exact⟨_,_,rfl⟩
theorem rowP_nil (B:Nat)(w:af):xx B (.slice aj 0 0) [] w:=⟨rfl,.inl ⟨rfl,rfl⟩⟩
theorem EL (l:List UInt8):(⟨l.toArray⟩:ByteArray).size=l.length:=by simp[ByteArray.size]
theorem Tn (pat:Bool)(R:List UInt8->El×List UInt8×Bool)(D:List UInt8->Prop)(hR:yI pat R D)(a:List UInt8)(O:D a)(w:af)(P:jM w)(ab:a.length<=9223372036854775807):
  aV az 42 #[.string ⟨a.toArray⟩,.bool pat] w λe w'=>aJ w.heap.size w w'/\Tj w.heap.size (qi R a) e w':=by
 obtain⟨s,hs⟩:∃s:ByteArray,s=⟨a.toArray⟩:=⟨_,rfl⟩;have Q:s.data.toList=a:=by rw[hs]
 have k:s.size=a.length:=by rw[hs,EL]
 rw[<-hs];rw[<-k]at ab;have v:=ae Q;have ac:=ae k;have ad:=ae hR;have ai:=ae O;have ak:=ae P;clear hR O P hs Q;by_cases aR:s.size<=65536
 ·have i:Hid (qi R a=match els R a with|none=>([],4)|some L=>if L.length>256 then([],7)else(L,0)):=by
   show _=_;unfold qi;rw[gZ iE]
  have al:(s.size:Int)<=65536:=iE
  clear k;go_enter dD,dm;go_wp2
  go_loopw [0,6] (λy am wr=>∃(S:ByteArray) (L:List El) (z:Option dn) (A:Nat),y=.string S/\am=.slice z L.length A/\Ti R D a w wr S.data.toList L (.slice z L.length A)) (λy _ _=>strLen y)
  case atStart=>exact⟨s,[],aj,0,rfl,rfl,by rw[v.out];exact ai.out,BZ _ _,aA _ _,by rw[v.out];simp,by rw[v.out];simp⟩
  case round=>
   obtain⟨S,L,z,A,rfl,rfl,an⟩:=hrel;obtain⟨l,g,b,c,T⟩:=an;have m:S.data.toList.length=S.size:=iH;by_cases hS:S.size=0
   ·obtain rfl:S=⟨#[]⟩:=by
     have:S.data.size=0:=hS;exact ext_list (by simp[Array.eq_empty_of_size_eq_zero this])
    have d:Hid (els R a=ah L):=by show _=_;rw[c,Jj];simp
    have C:=ae g;by_cases U:L.length>256
    ·have ao:((256:Int)<(L.length:Int)):=iE
     clear c g hS m U;go_wp2;go_ret2;refine⟨b,?_⟩;rw[i.out,d.out];simp only[];rw[gY iE];exact⟨_,rfl,BZ _ _⟩
    ·have ao:¬((256:Int)<(L.length:Int)):=iE
     have a0:(L.length:Int)<=256:=iE;clear c g hS m U;go_wp2;go_ret2;refine⟨b,?_⟩;rw[i.out,d.out];simp only[];rw[gZ iE];exact⟨_,rfl,C.out⟩
   ·have j:S.data.toList≠[]:=λh=>hS (by rw[<-m,h];rfl)
    have ap:¬S.toList=[]:=λe=>by have:=(bu S).1 e;subst this;exact hS rfl
    have a1:(!S.toList.isEmpty)=ay:=by
     cases h:S.toList with
     |nil=>exact absurd h ap
     |cons x r=>rfl
    obtain⟨o,E⟩:=ad.out S.data.toList l j;have F:(⟨S.data.toList.toArray⟩:ByteArray)=S:=ext_list rfl;rw[F]at o;have G:=ae (o wr (ak.out.below b));have C:=ae g;have p:=ae b;have a2:=ae l;cases f:(R S.data.toList).2.2 with
    |false=>
     have d:Hid (els R a=aj):=by show _=_;rw[c,Jl j f];rfl
     have q:=ae f;clear c g b hS m o F E j f l
     go_wp2_with(go_at_call 48;refine G.out.mono ?_;rw[q.out];rintro e V ⟨rfl,t⟩)
     go_ret2;refine⟨?_,?_⟩
     ·have W:=p.out.trans (t.mono p.out.size)
      exact W.alloc W.size _
     ·rw[i.out,d.out]
      exact⟨_,rfl,BZ _ _⟩
    |true=>
     obtain⟨u,Y⟩:=E f
     have d:Hid (els R a=(els R (R S.data.toList).2.1).map ((L++[(R S.data.toList).1])++·)):=by show _=_;rw[c,Jk j f u];simp[bZ,Function.comp_def]
     have q:=ae f;generalize aq:R S.data.toList=X at G d q u Y;obtain⟨x,rest,ok⟩:=X;obtain⟨H,I,xs⟩:=x;have a3:L.length<=65536:=(by have:=ac.out;omega);have Z:=ae u;have ar:=ae T;have a4:w.heap.size<=wr.heap.size:=b.size;clear c g b hS o F E j f l aq u T
     go_wp2_with(first
      |(go_at_call 48;refine G.out.mono ?_;rw[q.out];rintro e V ⟨rfl,t⟩;have J:=ae t;clear t)
      |(at_builtin;(refine EG (B:=w.heap.size) (xs:=L.flatMap El.cells) (n:=L.length) Tryz.underlying95 S9 rfl iG iG _ rfl _ _ rfl rfl (World.ownsRow.alloc (oz C.out J.out) _) _ rfl (Td _ _ _) (V.heap.size+1) _ (World.EH _ _) rfl ?c1 ?c2 ?_)))
     case c1=>omega
     case c2=>
      have:=J.out.size
      simp;omega
     intro v' aD hr aa aE
     have K:yH w.heap.size v' (L++[⟨H,I,xs⟩]) aD:=by unfold yH;rw[aS,bJ];exact hr
     obtain⟨aF,aG,rfl⟩:=Jm K;have M:=p.out.trans (J.out.mono p.out.size);have aL:=ae ((M.alloc M.size (.cells #[.int .i64 H,.int .i64 I,.string xs] 101)).trans aa);have aM:=ae K;clear hr aa aE K M;go_wp2;go_roundw
     case rel=>refine⟨⟨rest.toArray⟩,L++[⟨H,I,xs⟩],aF,aG,rfl,rfl,?_⟩;refine⟨Y,aM.out,aL.out,d.out,?_⟩;have N:=Z.out;have a5:=ar.out;simp only[aS,aU,List.length_nil]at N⊢;omega
     case measure=>have N:=Z.out;simp only[strLen,EL]at N⊢;omega
 ·have i:Hid (qi R a=([],6)):=by
   show _=_;unfold qi;rw[gY iE]
  have al:65536<(s.size:Int):=iE
  clear k;go_enter dD,dm;go_wp2;go_ret2;exact⟨aA _ _,by rw[i.out];exact⟨_,rfl,BZ _ _⟩⟩
def Tq (B:Nat)(r:List El×Int)(e:di)(w':af):Prop:=∃v,e=.returned (.tuple #[v,.int .i64 r.2])/\xx B v r.1 w'
theorem Tt {L:List El}{k:Nat}(h:k<L.length):∀j x,L[k].cells[j]?=ah x->(L.flatMap El.cells)[k*3+j]?=ah x:=by
 intro j x hx;have a:j<3:=(aB.1 hx).1
 induction L generalizing k with
 |nil=>simp at h
 |cons y L b=>
  cases k with
  |zero=>simp only[List.getElem_cons_zero]at hx;simp only[aK,dw,bK];rw[bz (show j<y.cells.length from a)];exact hx
  |succ k=>simp only[List.getElem_cons_succ]at hx;have c:k<L.length:=(by simpa using h);simp only[aK];rw[bn (show y.cells.length<=(k+1)*3+j by show 3<=_;omega)];have e:(k+1)*3+j - y.cells.length=k*3+j:=(by show(k+1)*3+j - 3=_;omega);rw[e];exact b c hx
theorem Jn (R:List UInt8->El×List UInt8×Bool)(D:List UInt8->Prop)(hR:yI ag R D)(a:List UInt8)(F:D a)(w:af)(G:jM w)(H:a.length<=9223372036854775807):
  aV az 37 #[.string ⟨a.toArray⟩] w λe w'=>aJ w.heap.size w w'/\Tq w.heap.size (qi R a) e w':=by
 have p:=ae (Tn ag R D hR a F w G H)
 have I:(qi R a).1.length<=256:=by
  unfold qi;split
  ·simp
  ·split
   ·simp
   ·split
    ·simp
    ·simp only;omega
 generalize qi R a=V at p I;obtain⟨L,c⟩:=V;simp only at I;clear hR F G H;generalize(⟨a.toArray⟩:ByteArray)=s at p;go_enter Tryz.func37,Tryz.ntmps37
 go_wp2_with(go_at_call 42;refine p.out.mono ?_;rintro e b ⟨J,aD,rfl,d⟩;obtain⟨T,aE,rfl⟩:=Jm d;have U:=ae d;have W:=ae J;clear d J)
 go_loopw [6,16] (λX q wr=>∃(k:Nat) (f:Option dn) (i:Nat),k<=L.length/\q=.int .i64 k/\X=.slice f k i/\xx b.heap.size (.slice f k i) (L.take k) wr/\aJ b.heap.size b wr) (λ_ q _=>L.length - (intOf q).toNat)
 case atStart=>exact⟨0,aj,0,aQ _,rfl,rfl,rowP_nil _ _,aA _ _⟩
 case round=>
  obtain⟨k,f,i,aF,rfl,rfl,hp,l⟩:=hrel;by_cases r:k<L.length
  ·have d:=U.out
   rcases d.2 with⟨aG,t⟩|⟨g,cap,Y,hv,t,u,Z,aa,ab,K⟩
   ·exfalso
    have:L.length=0:=t;omega
   ·have ac:T=ah ⟨g,0,aj⟩:=by injection hv
    subst ac;have ad:g<b.heap.size:=(aZ.1 u).1;have M:wr.heap[g]?=ah (.cells Y 101):=by rw[l.block g ad];exact u
    have m:∀j x,L[k].cells[j]?=ah x->wr.cell? ⟨g,k*3+j,aj⟩=ah x:=λj x hx=>by rw[aC M];have aL:j<3:=(aB.1 hx).1;have:=Tt r j x hx;rw[<-K,aT iE]at this;simpa using this
    have N:=m 0 _ rfl;have v:=m 1 _ rfl;have y:=m 2 _ rfl;rw[Nat.add_zero]at N;have O:L.take (k+1)=L.take k++[L[k]]:=List.take_succ_eq_append_getElem r;have aM:(k:Int)<(L.length:Int):=iE;have z:(L.take k).length=k:=iI
    have ai:Hid (wr.ownsRow b.heap.size 99 2 (.slice f k i) k ((L.take k).flatMap El.EK)):=by have h:=hp;unfold xx at h;rw[z]at h;exact h
    have P:=ae l;have Q:=ae O;have ak:=ae z;generalize L[k]=x at N v y Q;obtain⟨al,am,xs⟩:=x;have aR:k<=256:=iE;clear d hv t u Z aa ab K m M hp l O z
    go_wp2_with(at_builtin;(refine EG (B:=b.heap.size) (xs:=(L.take k).flatMap El.EK) (n:=k) Tryz.underlying83 Tc rfl iG iG _ rfl _ _ rfl rfl (World.ownsRow.alloc ai.out _) _ rfl (Tf _ _) (wr.heap.size+1) _ (World.EH _ _) rfl ?c1 ?c2 ?_))
    case c1=>omega
    case c2=>
     have:=P.out.size
     simp;omega
    intro v' an hr S ao
    have o:xx b.heap.size v' (L.take (k+1)) an:=by unfold xx;rw[Q.out,aS,bJ,ak.out];exact hr
    obtain⟨ap,aq,rfl⟩:=Tm o;have A:(L.take (k+1)).length=k+1:=iI;rw[A]at o;have C:=P.out;have ar:=ae ((C.alloc C.size (.cells #[.int .i64 al,.int .i64 am,.string xs] 101)).trans S);have av:=ae o;rw[A];clear hr S ao o C A;go_wp2;go_roundw
    case rel=>exact⟨k+1,ap,aq,r,by go_num,rfl,av.out,ar.out⟩
    case measure=>simp[intOf];omega
  ·obtain rfl:k=L.length:=iE
   have aw:=ae hp;clear hp;go_wp2;go_ret2;have E:=W.out;refine⟨E.trans (l.mono E.size),_,rfl,?_⟩;have h:=aw.out;rw[List.take_length]at h;exact yF h E.size
theorem Jp {R:List UInt8->El×List UInt8×Bool}{D:List UInt8->Prop}(hR:yI ag R D){l:List UInt8}(a:D l)(b:l.length<=9223372036854775807){L:List El}{c:Int}(h:qi R l=(L,c)){ok:Bool}(d:(c !=0)=!ok):qK l ok:=by intro w f;refine(Jn R D hR l a w f b).mono ?_;rintro e w' ⟨g,v,rfl,hr⟩;rw[h];exact⟨v,c,rfl,d,g⟩
def rA:List UInt8->El×List UInt8×Bool:=λ_=>(⟨0,0,⟨#[34,120,34]⟩⟩,[],ay)
def rB:List UInt8->El×List UInt8×Bool:=λ_=>(⟨0,0,⟨#[]⟩⟩,[120],ag)
theorem TC:lF ay [120]=1:=iG
theorem readA:yI ag rA (λl=>l=[46,120]\/l=[]):=by
 intro l a b;rcases a with rfl|rfl
 ·refine⟨λw _=>?_,λ_=>⟨iG,.inr rfl⟩⟩
  refine Ji ⟨#[46,120]⟩ w 46 [120] rfl iG ⟨#[34,120,34]⟩ ⟨#[]⟩ ay (λw=>?_) iG;have:=I7 ⟨#[46,120]⟩ [120] w rfl iG;rw[TC]at this;exact this
 ·exact absurd rfl b
theorem TD:yI ag rB (λl=>l=[120]):=by intro l a b;subst a;refine⟨λw _=>?_,λh=>by cases h⟩;exact Ji ⟨#[120]⟩ w 120 [] rfl iG ⟨#[]⟩ ⟨#[120]⟩ ag (λw=>Jh ⟨#[120]⟩ 120 [] w rfl iG iG iG) iG
theorem TE:qK [46,120] ay:=by
 refine Jp readA (.inl rfl) iG (L:=[⟨0,0,⟨#[34,120,34]⟩⟩]) (c:=0) ?_ rfl;unfold qi;rw[gZ iG,Jk iG rfl iG];have e:els rA (rA [46,120]).2.1 =ah []:=Jj rA;rw[e]
 rfl
theorem TF:qK [120] ag:=by refine Jp TD rfl iG (L:=[]) (c:=4) ?_ rfl;unfold qi;rw[gZ iG,Jl iG rfl]
theorem TG:sV lS yJ.length yJ:=by
 refine λ_=>⟨λ_=>?_,λ_=>⟨λ_=>?_,?_⟩⟩
 ·show nP lS _ [.n,.f,.t] 4
  refine λ_ _ _=>⟨(λh=>by cases h),λ_=>?_⟩
  refine λ_ _ _=>⟨(λh=>by cases h),λ_=>?_⟩
  exact λ_ _ _=>⟨(λh=>by cases h),λ_=>trivial⟩
 ·show nP lS _ [.n,.p,.t] 3
  refine λ_ _ _=>⟨(λh=>by cases h),λ_=>?_⟩
  refine λ_ _ _=>⟨λ_=>TE,λ_=>?_⟩
  exact λ_ _ _=>⟨(λh=>by cases h),λ_=>trivial⟩
 ·intro h;cases h
theorem TI:sV lS Cb.length Cb:=by
 refine λ_=>⟨λ_=>?_,λh=>by cases h⟩
 show nP lS _ [.n,.f,.t] 4;refine λ_ _ _=>⟨(λh=>by cases h),λ_=>?_⟩
 refine λ_ _ _=>⟨(λh=>by cases h),λ_=>?_⟩
 exact λ_ _ _=>⟨(λh=>by cases h),λ_=>trivial⟩
theorem TK:sV lS Cc.length Cc:=by
 refine λ_=>⟨λ_=>?_,λh=>by cases h⟩
 show nP lS _ [.n,.p] 3;refine λ_ _ _=>⟨(λh=>by cases h),λ_=>?_⟩
 exact λ_ _ _=>⟨λ_=>TF,λ_=>trivial⟩
theorem TL:sV lS Ce.length Ce:=by
 refine λ_=>⟨λ_=>?_,λh=>by cases h⟩
 show nP lS _ [.n] 5;exact λ_ _ _=>⟨(λh=>by cases h),λ_=>trivial⟩
theorem TN:sV lS Cf.length Cf:=by
 refine λ_=>⟨λ_=>?_,λh=>by cases h⟩
 show nP lS _ [.n] 5;exact λ_ _ _=>⟨(λh=>by cases h),λ_=>trivial⟩
structure zQ (g h cap2:Nat)(w:af):Prop where
 t0:w.cell? ⟨g,3,aj⟩=ah (.string ⟨#[123,34,120,34,58,32,49,125]⟩)
 o1:w.cell? ⟨g,4,aj⟩=ah (.int .i64 8)
 n1:w.cell? ⟨g,5,aj⟩=ah (.slice (ah ⟨h,0,aj⟩) 2 cap2)
 t1:w.cell? ⟨g,7,aj⟩=ah (.string ⟨#[50]⟩)
 p1:w.cell? ⟨h,1,aj⟩=ah (.string ⟨#[46,120]⟩)
theorem zQ.below {g h c:Nat}{w w':af}(a:zQ g h c w)(d:aJ w.heap.size w w'):zQ g h c w':=by
 have k:∀b o v,w.cell? ⟨b,o,aj⟩=ah v->w'.cell? ⟨b,o,aj⟩=ah v:=λb o v hv=>by rw[d.cell (p:=⟨b,o,aj⟩) (World.block_lt_of_cell? w _ hv)];exact hv
 exact⟨k _ _ _ a.t0,k _ _ _ a.o1,k _ _ _ a.n1,k _ _ _ a.t1,k _ _ _ a.p1⟩
theorem EM {w:af}{B e size n:Nat}{v:ax}{xs:List ax}(h:w.ownsRow B e size v n xs)(hn:0<n):∃g cap,v=.slice (ah ⟨g,0,aj⟩) n cap/\B<=g/\∀j u,xs[j]?=ah u->w.cell? ⟨g,j,aj⟩=ah u:=by
 rcases h.2 with⟨_,k⟩|⟨g,cap,b,hv,c,d,l,m,o,f⟩
 ·omega
 ·refine⟨g,cap,hv,c,λj u a=>?_⟩
  rw[aC d];rw[<-f]at a;have i:j<(b.toList.take (n*size)).length:=(aB.1 a).1;rw[aT (by simp at i;omega)]at a;simpa using a
theorem TP {B:Nat}{v:ax}{w:af}(h:lM B v [(1,⟨[⟨#[97]⟩],[0],⟨#[123,34,120,34,58,32,49,125]⟩⟩),(8,⟨[⟨#[97]⟩,⟨#[46,120]⟩],[],⟨#[50]⟩⟩)] w):∃g cap c d,v=.slice (ah ⟨g,0,aj⟩) 2 cap/\zQ g c d w:=by
 obtain⟨M,a,e,f⟩:=h;cases M with
 |nil=>simp at a
 |cons i M=>
  cases M with
  |nil=>simp at a
  |cons j M=>
   cases M with
   |cons m M=>simp at a
   |nil=>obtain⟨n,o,p,q⟩:=i;obtain⟨r,s,t,u⟩:=j;simp only[bH,bP,List.cons.injEq,Prod.mk.injEq,and_true]at a;obtain⟨⟨rfl,rfl⟩,⟨rfl,rfl⟩⟩:=a;obtain⟨g,cap,rfl,x,b⟩:=EM e (dA _);obtain⟨k,_⟩:=f _ (List.mem_cons_of_mem _ (List.mem_singleton.2 rfl));obtain⟨c,d,hv,_,l⟩:=EM k (dA _);simp only at hv;subst hv;exact⟨g,cap,c,d,rfl,b 3 _ rfl,b 4 _ rfl,b 5 _ rfl,b 7 _ rfl,l 1 _ rfl⟩
theorem TQ (w:af)(b:Env w):aV az 7 #[.string ⟨yJ.toArray⟩] w λe w'=>∃g cap h a,e=.returned (.tuple #[.slice (ah ⟨g,0,aj⟩) 2 cap,.int .i64 0,.int .i64 0])/\zQ g h a w'/\aJ w.heap.size w w':=by refine(parse_any lS ⟨yJ.toArray⟩ w b (by unfold maxLen;decide) TG).mono ?_;rintro e w' ⟨c,hp⟩;have hp:EI w.heap.size (jT lS yJ) e w':=hp;rw[Tu]at hp;obtain⟨v,rfl,hc⟩:=hp;obtain⟨g,cap,d,a,rfl,ha⟩:=TP hc;exact⟨g,cap,d,a,rfl,ha,c⟩
theorem Ci (l:List UInt8)(a:Int)(b:jT lS l=(aj,a,4))(c:sV lS l.length l)(g:l.length<=1000)(w:af)(d:Env w):aV az 7 #[.string ⟨l.toArray⟩] w λe w'=>∃v,e=.returned (.tuple #[v,.int .i64 a,.int .i64 4])/\aJ w.heap.size w w':=by have hs:=EL l;refine(parse_any lS ⟨l.toArray⟩ w d (by unfold maxLen;omega) (by rw[hs];exact c)).mono ?_;rintro e w' ⟨f,hp⟩;have hp:EI w.heap.size (jT lS l) e w':=hp;rw[b]at hp;obtain⟨v,rfl,hc⟩:=hp;exact⟨v,rfl,f⟩
theorem EN (w:af)(m:Env w):aV az 6 #[] w λe w'=>e=.returned (.bool ay)/\aJ w.heap.size w w':=by
 have a:=ae m;clear m;go_enter Tryz.func6,Tryz.ntmps6
 go_wp2_with fail
 refine(TQ _ a.out).mono ?_;rintro e q ⟨g,cap,h,r,rfl,n,o⟩;have b:=ae (And.intro n o);clear n o
 go_wp2_with fail
 refine(Ci Cb 7 Tv TI iG _ (a.out.below b.out.2)).mono ?_;rintro e s ⟨vb,rfl,i⟩;have c:=ae (And.intro (b.out.1.below i) (b.out.2.trans (i.mono b.out.2.size)));clear i b
 go_wp2_with fail
 refine(Ci Cc 6 Tz TK iG _ (a.out.below c.out.2)).mono ?_;rintro e w3 ⟨vc,rfl,j⟩;have d:=ae (And.intro (c.out.1.below j) (c.out.2.trans (j.mono c.out.2.size)));clear j c
 go_wp2_with fail
 refine(Ci Ce 7 TA TL iG _ (a.out.below d.out.2)).mono ?_;rintro e t ⟨u,rfl,k⟩;have f:=ae (And.intro (d.out.1.below k) (d.out.2.trans (k.mono d.out.2.size)));clear k d
 go_wp2_with fail
 refine(Ci Cf 5 TB TN iG _ (a.out.below f.out.2)).mono ?_;rintro e v ⟨x,rfl,l⟩;have p:=ae (And.intro (f.out.1.below l) (f.out.2.trans (l.mono f.out.2.size)));clear l f;obtain⟨y,z,A,B,C⟩:=p.out.1;go_wp2;go_ret;exact⟨rfl,p.out.2⟩
def Cj (v:ax)(n:Nat)(xs:List ax)(w:af):Prop:=∃a c,v=.slice a n c/\(0<n->∃g o,a=ah ⟨g,o,aj⟩/\∀j u,xs[j]?=ah u->w.cell? ⟨g,o+j,aj⟩=ah u)
theorem EO {w:af}{B e size n:Nat}{v:ax}{xs:List ax}(h:w.ownsRow B e size v n xs):Cj v n xs w:=by
 by_cases hn:0<n
 ·obtain⟨g,cap,hv,_,hc⟩:=EM h hn
  exact⟨_,_,hv,λ_=>⟨g,0,rfl,λj u h=>by rw[bK];exact hc j u h⟩⟩
 ·obtain rfl:n=0:=iE
  rcases h.2 with⟨hv,_⟩|⟨g,cap,a,hv,_⟩
  ·exact⟨_,_,hv,λh=>absurd h (cZ 0)⟩
  ·exact⟨_,_,hv,λh=>absurd h (cZ 0)⟩
theorem cells_at:∀(M:List CM) (i k:Nat) (m:CM),M[i]?=ah m->k<4->(M.flatMap CM.cells)[i*4+k]?=m.cells[k]?
 |[],_,_,_,h,_=>by simp at h
 |m0::M,0,k,m,h,a=>by
  obtain rfl:m0=m:=by simpa using h
  rw[aK,bz (by show 0*4+k<4;omega),dw,bK]
 |m0::M,i+1,k,m,h,a=>by
  rw[aK,bn (by show 4<=(i+1)*4+k;omega)];have e:(i+1)*4+k - m0.cells.length=i*4+k:=by show(i+1)*4+k - 4=_;omega
  rw[e];exact cells_at M i k m (by simpa using h) a
structure xy (v:ax)(M:List CM)(w:af):Prop where
 row:Cj v M.length (M.flatMap CM.cells) w
 nms:∀m∈M,Cj m.nv m.cx.ns.length (m.cx.ns.map Value.string) w/\Cj m.fv m.cx.fs.length (m.cx.fs.map (Value.int .i64)) w
 few:M.length<=9223372036854775807/\∀m∈M,m.cx.ns.length<=9223372036854775807/\m.cx.fs.length<=9223372036854775807
structure rH (w wr:af):Prop where
 heap:wr.heap=w.heap
 below:aJ w.heap.size w wr
theorem rH.refl (w:af):rH w w:=⟨rfl,aA _ _⟩
theorem rH.drewN {w wr:af}(h:rH w wr)(n:Nat):rH w (wr.drewN n):=⟨h.heap,h.below.trans (below_drewN _ _ _)⟩
theorem rH.cell {w wr:af}(h:rH w wr)(g j:Nat):wr.cell? ⟨g,j,aj⟩=w.cell? ⟨g,j,aj⟩:=by simp only[World.cell?,h.heap]
structure TT (g o:Nat)(i:Nat)(m:CM)(w:af):Prop where
 c0:w.cell? ⟨g,o+i*4,aj⟩=ah (.int .i64 m.op)
 c1:w.cell? ⟨g,o+i*4+1,aj⟩=ah m.nv
 c2:w.cell? ⟨g,o+i*4+2,aj⟩=ah m.fv
 c3:w.cell? ⟨g,o+i*4+3,aj⟩=ah (.string m.cx.tx)
theorem xy.el {v:ax}{M:List CM}{w:af}{a:Option dn}{c:Nat}(h:xy v M w)(hv:v=.slice a M.length c){i:Nat}(hi:i<M.length):∃g o,a=ah ⟨g,o,aj⟩/\TT g o i M[i] w:=by
 obtain⟨j,l,b,hr⟩:=h.row;rw[hv]at b;injection b with e1 m e3;subst e1;obtain⟨g,o,rfl,hc⟩:=hr iE
 have e:∀k,k<4->w.cell? ⟨g,o+(i*4+k),aj⟩=M[i].cells[k]?:=λk d=>by have h:=cells_at M i k M[i] (aH hi) d;obtain⟨u,f⟩:∃u,M[i].cells[k]?=ah u:=⟨_,aH d⟩;rw[f]at h⊢;exact hc _ _ h
 exact⟨g,o,rfl,e 0 iG,e 1 iG,e 2 iG,e 3 iG⟩
theorem TU (P Q:Option dn)(ca R:Nat)(a b:List CM)(w:af)(hA:xy (.slice P a.length ca) a w)(S:xy (.slice Q b.length R) b w)(C:a.map (λm=>(m.op,m.cx))=b.map (λm=>(m.op,m.cx))):
  aV az 8 #[.slice P a.length ca,.slice Q b.length R] w λe w'=>e=.returned (.bool ay)/\aJ w.heap.size w w':=by
 have D:b.length=a.length:=by simpa using(ig bT C).symm
 have E:=ae hA;have T:=ae S;have an:=ae C;have ao:=ae D;have hn:(a.length:Int)<=9223372036854775807:=by have:=hA.few.1;omega
 clear hA S C;rw[D];clear D;go_enter Tryz.func8,Tryz.ntmps8;go_wp2
 go_loopw [5] (λG wr=>∃i:Nat,G=.int .i64 i/\i<=a.length/\rH w wr) (λG _=>a.length - (intOf G).toNat)
 case atStart=>exact⟨0,rfl,aQ _,rH.refl _⟩
 case round=>
  obtain⟨i,rfl,hi,hs⟩:=hrel;obtain⟨a9,ap⟩:=iD wr;subst ap;have s:=ae hs;by_cases j:i<a.length
  ·have t:i<b.length:=by have:=ao.out;omega
   obtain⟨ga,ba,rfl,U⟩:=E.out.el rfl j;obtain⟨bb,bc,rfl,V⟩:=T.out.el rfl t;obtain⟨na,nb⟩:=E.out.nms _ (bC j);obtain⟨W,nd⟩:=T.out.nms _ (bC t);obtain⟨H,I⟩:=E.out.few.2 _ (bC j)
   have hm:(a[i].op,a[i].cx)=(b[i].op,b[i].cx):=by have l:(a.map (λm=>(m.op,m.cx)))[i]?=ah (a[i].op,a[i].cx):=(by simp[j]);have u:(b.map (λm=>(m.op,m.cx)))[i]?=ah (b[i].op,b[i].cx):=(by simp[t]);rw[an.out,u]at l;exact(Option.some.inj l).symm
   generalize a[i]=aq at U na nb H I hm;generalize b[i]=mb at V W nd hm;obtain⟨X,bd,be,c⟩:=aq;obtain⟨bf,bg,bh,bi⟩:=mb;simp only[Prod.mk.injEq]at hm;obtain⟨rfl,rfl⟩:=hm;obtain⟨J,n,o,K⟩:=U;obtain⟨L,b1,b2,b3⟩:=V;obtain⟨bj,bk,l,v⟩:=na;obtain⟨bl,bm,u,y⟩:=nb;obtain⟨bo,bp,Y,z⟩:=W;obtain⟨bq,br,Z,A⟩:=nd;simp only at l u Y Z J n o K L b1 b2 b3 H I v y z A;subst l u Y Z;rw[<-hs.cell]at J n o K L b1 b2 b3;generalize aa:c.ns.length=N at n b1 H v z;generalize hF:c.fs.length=F at o b2 I y A;have ar:=ae v;have av:=ae y;have aw:=ae z;have aD:=ae A;have aE:=ae aa;have aF:=ae hF;have bs:(N:Int)<=9223372036854775807:=iE;have bt:(F:Int)<=9223372036854775807:=iE;have aG:(i:Int)<(a.length:Int):=iE;have bv:(0:Int)<=i:=iE;have bw:(X !=X)=ag:=bne_self_eq_false _;have bx:((N:Int)!=(N:Int))=ag:=bne_self_eq_false _;have bA:((F:Int)!=(F:Int))=ag:=bne_self_eq_false _;clear t v y z A aa hF hs hi j
   go_upto_region 6 with fail
   go_big_quiet (fail)
   go_wp2
   go_loopw [6] (λd M=>∃k:Nat,d=.int .i64 k/\k<=N/\rH w M) (λd _=>N - (intOf d).toNat)
   case atStart=>exact⟨0,rfl,aQ _,by first|exact s.out|exact s.out.drewN _⟩
   case round=>
    obtain⟨k,rfl,ab,g⟩:=hrel;have p:=ae g;rw[s.out.cell,<-g.cell]at n o b1 b2;by_cases r:k<N
    ·obtain⟨g1,aL,rfl,ac⟩:=ar.out iE
     obtain⟨aM,aR,rfl,ad⟩:=aw.out iE;have O:(k:Int)<(N:Int):=iE;have a0:(0:Int)<=k:=iE;have f:k<c.ns.length:=(by have:=aE.out;omega);have a1:wr.cell? ⟨g1,aL+k,aj⟩=ah (.string c.ns[k]):=(by rw[g.cell];exact ac _ _ (by simp[f]));have a2:wr.cell? ⟨aM,aR+k,aj⟩=ah (.string c.ns[k]):=(by rw[g.cell];exact ad _ _ (by simp[f]));generalize c.ns[k]=bB at a1 a2;clear ac ad f g ab;clear J K L b3
     go_upto_region 11 with fail
     go_big_quiet (fail)
     go_wp2;go_roundw
     case rel=>exact⟨k+1,by go_num,r,by first|exact p.out|exact p.out.drewN _⟩
     case measure=>simp[intOf];omega
    ·have O:((k:Int)<(N:Int))=False:=iI
     clear g ab r;obtain⟨bE,a3⟩:=iD wr;subst a3;go_wp2
     go_loopw [7] (λd M=>∃k:Nat,d=.int .i64 k/\k<=F/\rH w M) (λd _=>F - (intOf d).toNat)
     case atStart=>exact⟨0,rfl,aQ _,by first|exact p.out|exact p.out.drewN _⟩
     case round=>
      obtain⟨q,rfl,ai,h⟩:=hrel;have B:=ae h;rw[p.out.cell,<-h.cell]at o b2;by_cases r:q<F
      ·obtain⟨g2,a4,rfl,ak⟩:=av.out iE
       obtain⟨a5,a6,rfl,al⟩:=aD.out iE;have O:(q:Int)<(F:Int):=iE;have a0:(0:Int)<=q:=iE;have f:q<c.fs.length:=(by have:=aF.out;omega);have a7:wr.cell? ⟨g2,a4+q,aj⟩=ah (.int .i64 c.fs[q]):=(by rw[h.cell];exact ak _ _ (by simp[f]));have a8:wr.cell? ⟨a5,a6+q,aj⟩=ah (.int .i64 c.fs[q]):=(by rw[h.cell];exact al _ _ (by simp[f]));generalize c.fs[q]=am at a7 a8;have bL:(am !=am)=ag:=bne_self_eq_false _;clear ak al f h ai n b1
       go_upto_region 16 with fail
       go_big_quiet (fail)
       go_wp2;go_roundw
       case rel=>exact⟨q+1,by go_num,r,by first|exact B.out|exact B.out.drewN _⟩
       case measure=>simp[intOf];omega
      ·have O:((q:Int)<(F:Int))=False:=iI
       clear h ai r;go_wp2;go_roundw
       case rel=>exact⟨i+1,by go_num,iE,by first|exact B.out|exact B.out.drewN _⟩
       case measure=>simp[intOf];omega
  ·have aG:((i:Int)<(a.length:Int))=False:=iI
   go_wp2;go_ret;exact⟨rfl,s.out.below⟩
theorem Ub (l:List UInt8):∀p,uq l=ah p->p.1.length<=l.length:=by
 induction hn:l.length using bW generalizing l with
 |_ n a=>
  intro p hp
  have go:∀(r:List UInt8) (c:UInt8),r.length<n->(uq r).map (λp=>(c::p.1,p.2))=ah p->p.1.length<=n:=by
   intro r c hr he;cases h:uq r with
   |none=>rw[h]at he;cases he
   |some q=>
    rw[h]at he;obtain rfl:(c::q.1,q.2)=p:=by simpa using he
    have:=a _ hr r rfl q h
    simp;omega
  cases l with
  |nil=>cases hp
  |cons c r=>
   subst hn;unfold uq at hp;split at hp
   ·obtain rfl:=Option.some.inj hp;simp
   split at hp
   ·cases hp
   split at hp
   ·exact go r _ iH hp
   split at hp
   ·cases hp
   rename_i e r2;split at hp
   ·exact go r2 _ iI hp
   split at hp
   ·exact go r2 _ iI hp
   split at hp
   ·exact go r2 _ iI hp
   split at hp
   ·exact go r2 _ iI hp
   split at hp
   ·split at hp
    ·split at hp
     ·cases hp
     ·exact go _ _ iI hp
    ·cases hp
   ·cases hp
theorem Uc (l:List UInt8):(lX l).length<=l.length:=by
 unfold lX;cases h:rE l with
 |none=>simp
 |some p=>
  unfold rE at h;split at h
  ·have:=Ub _ p h
   rw[aO]at this;simp only;omega
  ·cases h
theorem Jt {pp:List UInt8->Bool}{D:Nat}(c:∀t:List UInt8,t.length<=D->qK t (pp t))(l:List UInt8)(d:l.length<=D):∀(b:List AK) (a:Nat),nP pp l b a
 |[],_=>trivial
 |_::b,a=>λ_ _ _=>⟨λ_=>c _ (dB (Uc _) (by rw[aO];omega)),λ_=>Jt c l d b _⟩
theorem Ud {pp:List UInt8->Bool}{D:Nat}(a:∀t:List UInt8,t.length<=D->qK t (pp t))(l:List UInt8)(b:l.length<=D):uD pp l:=by
 unfold uD;split
 ·trivial
 ·exact Jt a l b _ _
theorem Ju {pp:List UInt8->Bool}{D:Nat}(a:∀t:List UInt8,t.length<=D->qK t (pp t)):∀(n:Nat) (l:List UInt8),l.length<=D->sV pp n l
 |0,_,_=>trivial
 |n+1,l,b=>λ_=>⟨λ_=>Ud a _ (dB (qE 10 l) b),Ju a n _ (by rw[aO];omega)⟩
theorem Ue (c:UInt8)(r X:List UInt8):dec ((c::r)++10::X)=dec (c::r):=by
 have a:(10:UInt8).toNat=10:=rfl;have b:(0:UInt8).toNat=0:=rfl;rcases r with _|⟨x,_|⟨y,_|⟨z,t⟩⟩⟩
 all_goals
  unfold dec decodeN;simp[a,b]
theorem Jv (X:List UInt8):∀(n:Nat) (A:List UInt8),A.length=n->cp (A++10::X)=(match cp A with|some k=>ah k|none=>(cp (10::X)).map (·+A.length)):=by
 intro n
 induction n using bW with
 |_ n b=>
  intro A hA;cases A with
  |nil=>have:cp []=aj:=(by unfold cp;rfl);simp[this]
  |cons c r=>
   have hd:=Ue c r X;have hw:=AU c r;have d:=DL c r;simp only[aU]at d hA
   conv=>lhs;rw[bU];unfold cp
   rw[<-bU,hd];by_cases a:dec (c::r)=(65533,1)
   ·have:cp (c::r)=ah 0:=by unfold cp;rw[gY a]
    rw[gY a,this]
   ·have hc:cp (c::r)=(cp (r.drop ((dec (c::r)).2 - 1))).map (·+(dec (c::r)).2):=by conv=>lhs;unfold cp;rw[gZ a]
    rw[gZ a,hc];have e:(dec (c::r)).2 - 1<=r.length:=iE;rw[List.drop_append_of_le_length e,b _ (show(r.drop ((dec (c::r)).2 - 1)).length<n by rw[aO];omega) _ rfl];cases cp (r.drop ((dec (c::r)).2 - 1))with
    |some k=>rfl
    |none=>
     simp only[Option.map_none,bZ]
     congr 1
     funext x
     simp only[Function.comp_apply,aU,aO];omega
theorem Jw (X:List UInt8):cp (10::X)=(cp X).map (·+1):=by
 have hd:dec (10::X)=(10,1):=by unfold dec decodeN;rfl
 conv=>lhs;unfold cp
 rw[hd,gZ iG]
 rfl
theorem kZ (l:List UInt8):(⟨l.toArray⟩:ByteArray).size=l.length:=by simp[ByteArray.size]
def uF:Bool->List UInt8->Bool
 |_,[]=>ay
 |f,c::t=>sN c.toNat f&&uF ag t
def zV (l:List UInt8):List UInt8:=aX (aN l [34]) [34]
def xA (l:List UInt8):Bool:=if aP l [34]=ag then ag else if bI (aN l [34]) [34]=ag then ag else if zV l=[]then ag else uF ay (zV l)
def yN (r:List UInt8)(i:Nat):Prop:=i<=r.length/\uF ay r=uF (i==0) (r.drop i)
theorem Us (r:List UInt8):yN r 0:=⟨aQ _,iH⟩
theorem Ut {r:List UInt8}{i:Nat}(h:yN r i)(hi:i<r.length)(a:sN (r[i].toNat) (i==0)=ay):yN r (i+1):=by
 refine⟨hi,?_⟩;rw[h.2,drop_cons hi,uF,a,Bool.true_and];have:(i+1==0)=ag:=iH
 rw[this]
theorem Uu {r:List UInt8}{i:Nat}(h:yN r i)(hi:i<r.length)(a:sN (r[i].toNat) (i==0)=ag):uF ay r=ag:=by rw[h.2,drop_cons hi,uF,a,Bool.false_and]
theorem Uw {r:List UInt8}{i:Nat}(h:yN r i)(hi:¬i<r.length):uF ay r=ay:=by
 rw[h.2,bF iE]
 rfl
theorem CJ (l p:List UInt8):(aN l p).length<=l.length:=by
 unfold aN;split
 ·simp
 ·exact aI _
theorem Ux (l p:List UInt8):(aX l p).length<=l.length:=by
 unfold aX;split
 ·simp
 ·exact aI _
def Uy (b:Bool)(e:di):Prop:=∃t,e=.returned (.tuple #[.string t,.bool b])
theorem Uz (s:ByteArray)(w:af)(hs:s.size<=100000000):
  aV az 59 #[.string s] w λe w'=>Uy (xA s.data.toList) e/\w=w':=by
 have F:s.data.toList.length=s.size:=iH
 have a:=au (show xA s.data.toList=if aP s.data.toList [34]=ag then ag else if bI (aN s.data.toList [34]) [34]=ag then ag else if zV s.data.toList=[]then ag else uF ay (zV s.data.toList)from rfl);generalize xA s.data.toList=R at a⊢;have j:=au λW:af=>Tryz.strings_CutPrefix s ⟨#[34]⟩ W
 rw[show(⟨#[34]⟩:ByteArray).data.toList=[34]from rfl]at j;have C:=CJ s.data.toList [34];unfold zV at a;generalize aN s.data.toList [34]=k at j a C;have c:=au λW:af=>Tryz.strings_CutSuffix ⟨k.toArray⟩ ⟨#[34]⟩ W (by rw[kZ];omega)
 rw[show(⟨#[34]⟩:ByteArray).data.toList=[34]from rfl,show(⟨k.toArray⟩:ByteArray).data.toList=k from rfl]at c;have D:=Ux k [34];generalize aX k [34]=b at c a D;generalize aP s.data.toList [34]=b1 at j a;generalize bI k [34]=b2 at c a;have q:b.length<=100000000:=iE
 clear C D F hs;obtain⟨S,hS⟩:∃S:ByteArray,(⟨b.toArray⟩:ByteArray)=S:=⟨_,rfl⟩;have d:S.data.toList=b:=by rw[<-hS]
 have m:S.size=b.length:=by rw[<-hS];exact kZ _
 rw[hS]at c;have y:=au (And.intro d m);clear hS;cases b1 with
 |false=>
  have g:=au (a.1.trans (gY rfl));clear d m q;go_enter bG,bD
  go_wp2_with(first
   |(go_at_call 51;refine(j.1 _).mono ?_;rintro e o ⟨rfl,rfl⟩)
   |(go_at_call 65;refine(c.1 _).mono ?_;rintro e z ⟨rfl,rfl⟩))
  go_ret2;exact⟨⟨_,by rw[g.1];rfl⟩,rfl⟩
 |true=>
  have a:=au (a.1.trans (gZ iG));cases b2 with
  |false=>
   have g:=au (a.1.trans (gY rfl));clear d m q;go_enter bG,bD
   go_wp2_with(first
    |(go_at_call 51;refine(j.1 _).mono ?_;rintro e o ⟨rfl,rfl⟩)
    |(go_at_call 65;refine(c.1 _).mono ?_;rintro e z ⟨rfl,rfl⟩))
   go_ret2;exact⟨⟨_,by rw[g.1];rfl⟩,rfl⟩
  |true=>
   have a:=au (a.1.trans (gZ iG));by_cases l:b=[]
   ·have g:=au (a.1.trans (gY l))
    have G:S=⟨#[]⟩:=ext_list (by rw[d,l]);subst G;clear d m q l;go_enter bG,bD
    go_wp2_with(first
     |(go_at_call 51;refine(j.1 _).mono ?_;rintro e o ⟨rfl,rfl⟩)
     |(go_at_call 65;refine(c.1 _).mono ?_;rintro e z ⟨rfl,rfl⟩))
    go_ret2;exact⟨⟨_,by rw[g.1];rfl⟩,rfl⟩
   ·have g:=au (a.1.trans (gZ l))
    have H:¬S.toList=[]:=λe=>by have:=(bu S).1 e;rw[this]at d;exact l d.symm
    have L:S.toList.isEmpty=ag:=by
     cases h:S.toList with
     |nil=>exact absurd h H
     |cons x r=>rfl
    have M:(S.size:Int)<=100000000:=iE;clear d m q l
    as_aux_lemma=>
    go_enter bG,bD
    go_wp2_with(first
     |(go_at_call 51;refine(j.1 _).mono ?_;rintro e o ⟨rfl,rfl⟩)
     |(go_at_call 65;refine(c.1 _).mono ?_;rintro e z ⟨rfl,rfl⟩))
    go_loop [30] (λn=>∃i:Nat,n=.int .i64 i/\yN b i) (λn=>S.size - (intOf n).toNat)
    case atStart=>exact⟨0,rfl,Us b⟩
    case round=>
     obtain⟨i,rfl,hr⟩:=hrel;by_cases I:i<S.size
     ·have A:i<b.length:=by have:=y.1.2;omega
      have B:b[i]=S[i]:=by have t:b[i]?=S.data.toList[i]?:=(by rw[y.1.1]);rw[aH A,aH (by simpa using I)]at t;exact Option.some.inj t
      have J:(i:Int)<S.size:=iE;obtain⟨f,hf⟩:=iC ((i==0))
      have e1:((i:Int)==0)=f:=by
       rw[<-hf];by_cases h:i=0
       ·subst h;rfl
       ·have t:(i==0)=ag:=by simpa using h
        have K:((i:Int)==0)=ag:=iI;rw[t,K]
      have u:=Ut hr A;have v:=Uu hr A;rw[B,hf]at u v;cases E:sN (S[i].toNat) f
      ·have p:=ae (v E)
       clear u v B hf hr
       go_wp2_with(go_at_call 56;refine(BK _ _ _).mono ?_;rintro e o ⟨rfl,rfl⟩)
       go_ret2;exact⟨⟨_,by rw[g.1,p.out];rfl⟩,rfl⟩
      ·have p:=ae (u E)
       clear u v B hf hr
       go_wp2_with(go_at_call 56;refine(BK _ _ _).mono ?_;rintro e o ⟨rfl,rfl⟩)
       go_round
       case rel=>exact⟨i+1,by go_num,p.out⟩
       case measure=>simp[intOf];omega
     ·have J:¬(i:Int)<S.size:=iE
      have p:=ae (Uw hr (by have:=y.1.2;omega));clear hr;go_wp2;go_ret2;exact⟨⟨_,by rw[g.1,p.out];rfl⟩,rfl⟩
def yO (x:Nat):Bool:=decide (48<=x/\x<=57)
def oW:List UInt8->Nat
 |[]=>0
 |c::t=>if yO c.toNat then oW t+1 else 0
def xB (r:List UInt8)(i:Nat):Prop:=i<=r.length/\oW r=i+oW (r.drop i)
theorem UA (r:List UInt8):xB r 0:=⟨aQ _,iH⟩
theorem UB {r:List UInt8}{i:Nat}(h:xB r i)(hi:i<r.length)(a:yO r[i].toNat=ay):xB r (i+1):=by refine⟨hi,?_⟩;rw[h.2,drop_cons hi,oW,gY a];omega
theorem JC {r:List UInt8}{i:Nat}(h:xB r i)(hi:i<r.length)(a:yO r[i].toNat=ag):oW r=i:=by rw[h.2,drop_cons hi];unfold oW;rw[a];simp
theorem UC {r:List UInt8}{i:Nat}(h:xB r i)(hi:¬i<r.length):oW r=i:=by
 rw[h.2,bF iE]
 rfl
def zW (l:List UInt8):Bool:=oW l==0||decide (9<oW l)||(decide (1<oW l)&&l.getD 0 0==48)
def lZ (l:List UInt8):Int×List UInt8×Bool:=if zW l=ay then(0,l,ag)else((dC (l.take (oW l))).getD 0,l.drop (oW l),ay)
theorem ES (l:List UInt8):(lZ l).2.1.length<=l.length:=by
 unfold lZ;split
 ·exact aI _
 ·simp
def xC (l:List UInt8)(e:di):Prop:=e=.returned (.tuple #[.int .i64 (lZ l).1,.string ⟨(lZ l).2.1.toArray⟩,.bool (lZ l).2.2])
theorem JD (s:ByteArray)(w:af)(hs:s.size<=100000000)(B:jM w):
  aV az 52 #[.string s] w λe w'=>xC s.data.toList e/\aJ w.heap.size w w':=by
 have C:s.data.toList.length=s.size:=iH
 have D:(⟨s.data.toList.toArray⟩:ByteArray)=s:=iH
 have t:=au (And.intro C D);have K:=au B;clear B C D
 as_aux_lemma=>
 go_enter Tryz.func52,Tryz.ntmps52;go_wp2
 go_loop [5] (λn=>∃i:Nat,n=.int .i64 i/\xB s.data.toList i) (λn=>s.size - (intOf n).toNat)
 case atStart=>exact⟨0,rfl,UA _⟩
 case round=>
  obtain⟨i,rfl,hr⟩:=hrel;have O:i<=s.size:=by have:=hr.1;have:=t.1.1;omega
  have j:(∃a:i<s.size,48<=(s[i].toNat:Int)/\(s[i].toNat:Int)<=57/\xB s.data.toList (i+1))\/(oW s.data.toList=i/\(¬i<s.size\/(∃a:i<s.size,¬48<=(s[i].toNat:Int))\/∃a:i<s.size,48<=(s[i].toNat:Int)/\¬(s[i].toNat:Int)<=57)):=by
   by_cases a:i<s.size
   ·have u:i<s.data.toList.length:=by have:=t.1.1;omega
    have k:s.data.toList[i]=s[i]:=rfl;by_cases b:48<=(s[i].toNat:Int)
    ·by_cases c:(s[i].toNat:Int)<=57
     ·exact .inl ⟨a,b,c,UB hr u (by rw[k];unfold yO;rw[decide_eq_true_eq];omega)⟩
     ·exact .inr ⟨JC hr u (by rw[k];unfold yO;rw[decide_eq_false_iff_not];omega),.inr (.inr ⟨a,b,c⟩)⟩
    ·exact .inr ⟨JC hr u (by rw[k];unfold yO;rw[decide_eq_false_iff_not];omega),.inr (.inl ⟨a,b⟩)⟩
   ·exact .inr ⟨UC hr (by have:=t.1.1;omega),.inl a⟩
  clear hr;rcases j with⟨a,b,c,hr⟩|⟨q,j⟩
  ·have L:=au hr
   have f:(i:Int)<s.size:=iE;clear hr;go_wp2;go_round
   case rel=>exact⟨i+1,by go_num,L.1⟩
   case measure=>simp[intOf];omega
  ·have P:=au q
   have x:=au (show lZ s.data.toList=if zW s.data.toList=ay then(0,s.data.toList,ag)else((dC (s.data.toList.take (oW s.data.toList))).getD 0,s.data.toList.drop (oW s.data.toList),ay)from rfl);rw[q]at x
   have g:(zW s.data.toList=ay/\((i:Int)=0\/(¬(i:Int)=0/\9<(i:Int))\/(¬(i:Int)=0/\¬9<(i:Int)/\1<(i:Int)/\∃h:0<s.size,((s[0].toNat:Int)==48)=ay)))\/(zW s.data.toList=ag/\¬(i:Int)=0/\¬9<(i:Int)/\(¬1<(i:Int)\/(1<(i:Int)/\∃h:0<s.size,((s[0].toNat:Int)==48)=ag))):=by
    unfold zW;rw[q];by_cases b:i=0
    ·exact .inl ⟨by simp[b],.inl iE⟩
    by_cases c:9<i
    ·exact .inl ⟨by simp[c],.inr (.inl ⟨iE,iE⟩)⟩
    by_cases d:1<i
    ·have h:0<s.size:=iE
     have k:=lC s 0 h;by_cases l:s[0]=48
     ·exact .inl ⟨by rw[k,l];simp[d],.inr (.inr ⟨iE,iE,iE,h,by rw[l];rfl⟩)⟩
     ·refine .inr ⟨by rw[k];simp[b,c,l],iE,iE,.inr ⟨iE,h,?_⟩⟩
      rw[iy];intro e;exact l (aW.1 (by have Q:(48:UInt8).toNat=48:=rfl;omega))
    ·exact .inr ⟨by simp[b,c,d],iE,iE,.inl iE⟩
   clear q;have R:(i:Int)<=(s.size:Int):=iE;rcases g with⟨o,g⟩|⟨o,n0,S,g⟩
   ·have m:=au (x.1.trans (gY o))
    clear o;rcases g with d|g
    ·obtain rfl:i=0:=iE
     clear d;rcases j with a|⟨a,b⟩|⟨a,b,c⟩
     all_goals
      first
       |(have f:((0:Nat):Int)<s.size:=iE)
       |(have f:¬((0:Nat):Int)<s.size:=iE)
      go_wp2;go_ret3;exact⟨by unfold xC;rw[m.1];rfl,aA _ _⟩
    ·rcases j with a|⟨a,b⟩|⟨a,b,c⟩
     all_goals rcases g with⟨d,l⟩|⟨d,l,T,h,E⟩
     all_goals
      first
       |(have f:(i:Int)<s.size:=iE)
       |(have f:¬(i:Int)<s.size:=iE)
      try(have F:(0:Int)<s.size:=iE)
      have M:((i:Int)==0)=ag:=(by rw[iy];exact d);go_wp2;go_ret3;exact⟨by unfold xC;rw[m.1];rfl,aA _ _⟩
   ·have m:=au (x.1.trans (gZ (by rw[o];decide)))
    have y:s.extract 0 i=⟨(s.data.toList.take i).toArray⟩:=BP s i;have G:(s.extract 0 i).data.toList=s.data.toList.take i:=by rw[y]
    have H:s.extract i s.size=⟨(s.data.toList.drop i).toArray⟩:=ext_list (by simp[ByteArray.data_extract];exact List.take_of_length_le iH)
    have I:=au H;have r:=au (((K.1.v.ok) w (aA _ _)).1 (s.extract 0 i) (by rw[y,kZ,List.length_take];omega));rw[G]at r;have M:((i:Int)==0)=ag:=(by rw[iy];exact n0);obtain⟨z,J⟩:=iC (dC (s.data.toList.take i));rw[J]at r m;clear o y G H J;have U:0<=(i:Int):=iE;cases z with
    |some v=>
     rcases j with a|⟨a,b⟩|⟨a,b,c⟩
     all_goals rcases g with d|⟨d,h,E⟩
     all_goals
      as_aux_lemma=>
      first
       |(have f:(i:Int)<s.size:=iE)
       |(have f:¬(i:Int)<s.size:=iE)
      try(have F:(0:Int)<s.size:=iE)
      go_wp2_with(go_at_call 55;refine(r.1).mono ?_;rintro e N ⟨rfl,p⟩;have A:=au p;clear p)
      go_quiet (fail)
      go_wp2;go_ret3;exact⟨by unfold xC;rw[m.1];show _=Ending.returned (Value.tuple #[_,Value.string ⟨(s.data.toList.drop i).toArray⟩,_]);rw[<-I.1];rfl,A.1.trans (below_drewN _ _ _)⟩
    |none=>
     rcases j with a|⟨a,b⟩|⟨a,b,c⟩
     all_goals rcases g with d|⟨d,h,E⟩
     all_goals
      as_aux_lemma=>
      first
       |(have f:(i:Int)<s.size:=iE)
       |(have f:¬(i:Int)<s.size:=iE)
      try(have F:(0:Int)<s.size:=iE)
      go_wp2_with(go_at_call 55;refine(r.1).mono ?_;rintro e N ⟨⟨tt,pp,rfl⟩,p⟩;have A:=au p;clear p)
      go_quiet (fail)
      go_wp2;go_ret3;exact⟨by unfold xC;rw[m.1];show _=Ending.returned (Value.tuple #[_,Value.string ⟨(s.data.toList.drop i).toArray⟩,_]);rw[<-I.1];rfl,A.1.trans (below_drewN _ _ _)⟩
theorem wpList_want {P:dE}{ops:Array cu}{rest:List cu}{o:cu}{a:Act}{w:af}{Q:Exit->Act->af->Prop}(hw:Region.wanted o (yielded ops a.tmps)=ay)
  (h:∀K:Act->af->Prop,(∀a w,wpList P ops Q rest a w->K a w)->o.wp P a w K Q):wpList P ops Q (o::rest) a w:=
 wpList_step λK hK=>by rw[hw];exact h K hK
theorem TV {w:af}{B:Nat}{T:dh}(h:B<=w.heap.size):(w.alloc (.cells #[] T)).ownsRow B T 4 (.slice (ah ⟨w.heap.size,0,aj⟩) 0 0) 0 []:=
 ⟨rfl,.inr ⟨w.heap.size,0,#[],rfl,h,bY w _,aI _,aQ _,rfl,rfl⟩⟩
theorem TY {P:dE}{w:af}(t ty e:dh)(i:TypeInfo)(z:ax)(b:P.underlying t=ah (.slice e))(hi:P.info? e=ah i)(d:i.zero=ah z)(a:Option dn)(n c:Nat)(hn:n<=c):
  (Builtin.append_ #[t,t] ty #[.slice a n c,.slice aj 0 0]).run P w=.ok (.slice a n c) w:=by
 cases a<;>simp[Builtin.append_,run_underlying b,sizeOf,typeInfo,zeroValue,hi,d,Builtin.lenOf,hn,Question.forced,run_firstCells_none,storeCells]
theorem TZ {P:dE}{w:af}{o:cu}{a:Act}{K:Act->af->Prop}{Q:Exit->Act->af->Prop}(t e:dh)(i:TypeInfo)(z:ax)(d:P.underlying t=ah (.slice e))(hi:P.info? e=ah i)(f:i.zero=ah z)(s x:Operand)(g:o.op=.call {callee:=.builtin .append,args:=#[s,x],argTypes:=#[t,t]})
  (b:Option dn)(n c:Nat)(hn:n<=c)(hs:a.eval s=.slice b n c)(hx:a.eval x=.slice aj 0 0)(h:K (a.put o.dst (.slice b n c)) w):o.wp P a w K Q:=by
 unfold Oper.wp execOp;simp only[g,resolve,invoke,builtin,Sem.run_bind,Sem.run_pure,Result.andThen_ok,bV,bH,bP,hs,hx,TY t o.type e i z d hi f b n c hn];exact h
theorem zS {w:af}{B e size n:Nat}{v:ax}{xs:List ax}(h:w.ownsRow B e size v n xs):∃a c,v=.slice a n c/\n<=c/\c<=maxLen:=by
 rcases h.2 with⟨rfl,b⟩|⟨g,cap,i,rfl,_,_,d,f,_⟩
 ·exact⟨aj,0,by rw[b],iE,by unfold maxLen;omega⟩
 ·exact⟨_,_,rfl,d,f⟩
theorem Ua (M:List CM)(h:∀m∈M,m.nv.oneCell'=ay/\m.fv.oneCell'=ay):∀u∈M.flatMap CM.cells,u.oneCell'=ay:=by
 intro u a;obtain⟨m,hm,a⟩:=List.mem_flatMap.1 a;have:=h m hm;simp[CM.cells]at a;rcases a with rfl|rfl|rfl|rfl
 ·rfl
 ·exact this.1
 ·exact this.2
 ·rfl
theorem Jq:∀M:List CM,(M.flatMap CM.cells).length=M.length*4
 |[]=>rfl
 |m::M=>by rw[aK,aS,Jq M,aU,Nat.add_mul];show 4+_=_;omega
theorem Jr {B:Nat}{v:ax}{M:List CM}{w:af}(h:w.ownsRow B 38 4 v M.length (M.flatMap CM.cells))(hr:∀m∈M,∃B,qc B m.nv m.cx.ns w/\qg B m.fv m.cx.fs w):xy v M w:=by
 have c:∀{B e size n:Nat} {v:ax} {xs:List ax},w.ownsRow B e size v n xs->n<=9223372036854775807:=λh=>by obtain⟨_,_,_,b,a⟩:=zS h;unfold maxLen at a;omega
 refine⟨EO h,λm hm=>?_,c h,λm hm=>?_⟩
 ·obtain⟨B,b,a⟩:=hr m hm
  exact⟨EO b,EO a⟩
 ·obtain⟨B,b,a⟩:=hr m hm
  exact⟨c b,c a⟩
theorem Cm {w:af}{B e size n:Nat}{v:ax}{xs:List ax}(h:w.ownsRow B e size v n xs):v.oneCell'=ay:=by
 obtain⟨_,_,rfl,_⟩:=zS h
 rfl
theorem Js {ops:Array cu}{rest:List cu}{o:cu}{a:Act}{Q:Exit->Act->af->Prop}(w:af)(hw:Region.wanted o (yielded ops a.tmps)=ay)(s x:Operand)(e:o.op=.call {callee:=.builtin .append,args:=#[s,x],argTypes:=#[23,23]})
  {B n:Nat}{v:ax}{xs:List ax}(hs:a.eval s=v)(b:w.ownsRow B 38 4 v n xs){r:Nat}{f:ax}(M:List CM)(hx:a.eval x=f)(t:w.ownsRow r 38 4 f M.length (M.flatMap CM.cells))(y:∀m∈M,m.nv.oneCell'=ay/\m.fv.oneCell'=ay)
  (hn:n<=1000)(hm:M.length<=1000)(i:B<=w.heap.size)
  (h:∀v' w',w'.ownsRow B 38 4 v' (n+M.length) (xs++M.flatMap CM.cells)->aJ B w w'->(w'=w\/w.grownBy w' v.ownBlock)->wpList az ops Q rest (a.put o.dst v') w'):wpList az ops Q (o::rest) a w:=by
 obtain⟨l,hi,p,z,A⟩:=info_parts Jf;refine wpList_want hw λK hK=>?_
 rcases t.2 with⟨rfl,C⟩|⟨g,cap,D,rfl,L,E,N,O,R,F⟩
 ·obtain⟨G,c,hv,hc,-⟩:=zS b
  refine TZ _ _ l _ bQ hi p s x e G n c hc (hs.trans hv) hx (hK _ _ ?_);rw[<-hv];obtain rfl:M=[]:=List.length_eq_zero_iff.1 C;refine h v w ?_ (aA _ _) (.inl rfl);simpa using b
 ·obtain⟨v',w',hr,H,q,S,T⟩:=run_append_own_at (P:=az) (w:=w) B _ o.type _ l _ 4 _ bQ hi p z A rfl iG v n xs b ⟨g,0,aj⟩ M.length cap (M.flatMap CM.cells) (Jq M) (λj u d=>by
   rw[add_zero',aC E];rw[<-F]at d;have I:j<(D.toList.take (M.length*4)).length:=(aB.1 d).1;rw[aT (by simp at I;omega)]at d;simpa using d) (Ua M y) (by unfold maxLen;omega) iE i
  unfold Oper.wp execOp;simp only[e,resolve,invoke,builtin,Sem.run_bind,Sem.run_pure,Result.andThen_ok,bV,bH,bP,hs,hx,hr];exact hK _ _ (h v' w' H ((aA B w).grown q i (λk J=>(World.ownsRow.lt b k J).1)) (.inr q))
end Go.Proofs.YthcalnnipjflkaaGreatDoor
