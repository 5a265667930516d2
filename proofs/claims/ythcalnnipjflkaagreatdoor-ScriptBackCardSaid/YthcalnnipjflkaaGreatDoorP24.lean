import Derived.Test.YthcalnnipjflkaaGreatDoorP14
import Derived.Test.YthcalnnipjflkaaGreatDoorP18
import Derived.Test.YthcalnnipjflkaaGreatDoorP23
import Derived.Laws.Runes
import Derived.Laws.RangeAny
import Derived.WalkMore
import Derived.Maps.AppendAt
open PLift renaming up -> ae
open Option renaming some -> af, none -> ag, getD_some -> bC
open Bool renaming false -> ah, true -> aC, and_eq_true -> aK, not_eq_false' -> dB
open Go.Lib renaming cell_of_heap -> aj, hid -> aI, indexAny -> aX, trimPrefix -> aY, trimSuffix -> bG, hasPrefix -> dm, hasSuffix -> dn, indexByte -> dA, data_getElem? -> dE, atoi -> dJ, below_iterAt -> dM, size_eq -> dQ, iterAt_heap -> dR, NoAny -> dV
open Go renaming World -> au, Value -> aA, Calls -> aQ, bodyPost_ret -> aU, heap_alloc_new -> bI, wpQuiet_nil -> dF, validRune_eq -> dK, zero_of_info -> dN
open Go.Proofs.Tryz renaming prog -> ax, results89 -> aO, ntmps59 -> bJ, ntmps89 -> bK, func59 -> bV, func89 -> bY, ntmps113 -> dw, func113 -> dC, ntmps130 -> dG, func130 -> dL, ntmps86 -> dO, func86 -> dU
open List renaming getElem?_eq_getElem -> ay, mem_append_left -> aB, mem_append_right -> aN, getD_eq_getElem?_getD -> aV, range -> aW, getElem_mem -> bu, length_drop -> bz, mem_of_getElem? -> bD, replicate -> bH, foldl_cons -> bT, drop_eq_nil_of_le -> bU, take_of_length_le -> bW, mem_range -> bZ, length_replicate -> cu, flatMap_cons -> dD
open Nat renaming le_refl -> az, le_trans -> aT, zero_le -> aZ, not_lt_zero -> bF, lt_irrefl -> di, succ_pos -> dH, zero_add -> dI
open Go.Utf8 renaming decode -> aH, valid -> cZ, encode -> dP
open Go.RowKit renaming Below -> aJ
open Array renaming replicate -> aP, getElem_mem_toList -> bP, toList_extract -> dh
open Go.RowKit.Below renaming refl -> aS
open ByteArray renaming data_extract -> bn
open UInt8 renaming toNat_inj -> bQ
set_option linter.all false
set_option maxHeartbeats 16000000
set_option maxRecDepth 1000000
namespace Go.Proofs.YthcalnnipjflkaaGreatDoor
open Go.RowKit
open Go.Lib hiding intOf
structure zQ (g h cap2:Nat)(w:au):Prop where
 t0:w.cell? ⟨g,3,ag⟩=af (.string ⟨#[123,34,120,34,58,32,49,125]⟩)
 o1:w.cell? ⟨g,4,ag⟩=af (.int .i64 8)
 n1:w.cell? ⟨g,5,ag⟩=af (.slice (af ⟨h,0,ag⟩) 2 cap2)
 t1:w.cell? ⟨g,7,ag⟩=af (.string ⟨#[50]⟩)
 p1:w.cell? ⟨h,1,ag⟩=af (.string ⟨#[46,120]⟩)
theorem zQ.below {g h c:Nat}{w w':au}(a:zQ g h c w)(d:aJ w.heap.size w w'):zQ g h c w':=by
 have k:∀b o v,w.cell? ⟨b,o,ag⟩=af v->w'.cell? ⟨b,o,ag⟩=af v:=λb o v hv=>by rw[d.cell (p:=⟨b,o,ag⟩) (World.block_lt_of_cell? w _ hv)];exact hv
 exact⟨k _ _ _ a.t0,k _ _ _ a.o1,k _ _ _ a.n1,k _ _ _ a.t1,k _ _ _ a.p1⟩
theorem EM {w:au}{B e size n:Nat}{v:aA}{xs:List aA}(h:w.ownsRow B e size v n xs)(hn:0<n):∃g cap,v=.slice (af ⟨g,0,ag⟩) n cap/\B<=g/\∀j u,xs[j]?=af u->w.cell? ⟨g,j,ag⟩=af u:=by
 rcases h.2 with⟨_,k⟩|⟨g,cap,b,hv,c,d,l,m,o,f⟩
 ·omega
 ·refine⟨g,cap,hv,c,λj u a=>?_⟩
  rw[aj d];rw[<-f]at a;have i:j<(b.toList.take (n*size)).length:=(List.getElem?_eq_some_iff.1 a).1;rw[List.getElem?_take_of_lt (by simp at i;omega)]at a;simpa using a
theorem TP {B:Nat}{v:aA}{w:au}(h:lM B v [(1,⟨[⟨#[97]⟩],[0],⟨#[123,34,120,34,58,32,49,125]⟩⟩),(8,⟨[⟨#[97]⟩,⟨#[46,120]⟩],[],⟨#[50]⟩⟩)] w):∃g cap c d,v=.slice (af ⟨g,0,ag⟩) 2 cap/\zQ g c d w:=by
 obtain⟨M,a,e,f⟩:=h;cases M with
 |nil=>simp at a
 |cons i M=>
  cases M with
  |nil=>simp at a
  |cons j M=>
   cases M with
   |cons m M=>simp at a
   |nil=>obtain⟨n,o,p,q⟩:=i;obtain⟨r,s,t,u⟩:=j;simp only[List.map_cons,List.map_nil,List.cons.injEq,Prod.mk.injEq,and_true]at a;obtain⟨⟨rfl,rfl⟩,⟨rfl,rfl⟩⟩:=a;obtain⟨g,cap,rfl,x,b⟩:=EM e (dH _);obtain⟨k,_⟩:=f _ (List.mem_cons_of_mem _ (List.mem_singleton.2 rfl));obtain⟨c,d,hv,_,l⟩:=EM k (dH _);simp only at hv;subst hv;exact⟨g,cap,c,d,rfl,b 3 _ rfl,b 4 _ rfl,b 5 _ rfl,b 7 _ rfl,l 1 _ rfl⟩
theorem TQ (w:au)(b:Env w):aQ ax 7 #[.string ⟨yJ.toArray⟩] w λe w'=>∃g cap h a,e=.returned (.tuple #[.slice (af ⟨g,0,ag⟩) 2 cap,.int .i64 0,.int .i64 0])/\zQ g h a w'/\aJ w.heap.size w w':=by refine(parse_any lS ⟨yJ.toArray⟩ w b (by unfold maxLen;decide) TG).mono ?_;rintro e w' ⟨c,hp⟩;have hp:EI w.heap.size (jT lS yJ) e w':=hp;rw[Tu]at hp;obtain⟨v,rfl,hc⟩:=hp;obtain⟨g,cap,d,a,rfl,ha⟩:=TP hc;exact⟨g,cap,d,a,rfl,ha,c⟩
theorem Ci (l:List UInt8)(a:Int)(b:jT lS l=(ag,a,4))(c:sV lS l.length l)(g:l.length<=1000)(w:au)(d:Env w):aQ ax 7 #[.string ⟨l.toArray⟩] w λe w'=>∃v,e=.returned (.tuple #[v,.int .i64 a,.int .i64 4])/\aJ w.heap.size w w':=by have hs:=EL l;refine(parse_any lS ⟨l.toArray⟩ w d (by unfold maxLen;omega) (by rw[hs];exact c)).mono ?_;rintro e w' ⟨f,hp⟩;have hp:EI w.heap.size (jT lS l) e w':=hp;rw[b]at hp;obtain⟨v,rfl,hc⟩:=hp;exact⟨v,rfl,f⟩
theorem EN (w:au)(m:Env w):aQ ax 6 #[] w λe w'=>e=.returned (.bool aC)/\aJ w.heap.size w w':=by
 have a:=aI m;clear m;go_enter Tryz.func6,Tryz.ntmps6
 go_wp2_with fail
 refine(TQ _ a.out).mono ?_;rintro e q ⟨g,cap,h,r,rfl,n,o⟩;have b:=aI (iJ n o);clear n o
 go_wp2_with fail
 refine(Ci Cb 7 Tv TI iG _ (a.out.below b.out.2)).mono ?_;rintro e s ⟨vb,rfl,i⟩;have c:=aI (iJ (b.out.1.below i) (b.out.2.trans (i.mono b.out.2.size)));clear i b
 go_wp2_with fail
 refine(Ci Cc 6 Tz TK iG _ (a.out.below c.out.2)).mono ?_;rintro e w3 ⟨vc,rfl,j⟩;have d:=aI (iJ (c.out.1.below j) (c.out.2.trans (j.mono c.out.2.size)));clear j c
 go_wp2_with fail
 refine(Ci Ce 7 TA TL iG _ (a.out.below d.out.2)).mono ?_;rintro e t ⟨u,rfl,k⟩;have f:=aI (iJ (d.out.1.below k) (d.out.2.trans (k.mono d.out.2.size)));clear k d
 go_wp2_with fail
 refine(Ci Cf 5 TB TN iG _ (a.out.below f.out.2)).mono ?_;rintro e v ⟨x,rfl,l⟩;have p:=aI (iJ (f.out.1.below l) (f.out.2.trans (l.mono f.out.2.size)));clear l f;obtain⟨y,z,A,B,C⟩:=p.out.1;go_wp2;go_ret;exact⟨rfl,p.out.2⟩
def Cj (v:aA)(n:Nat)(xs:List aA)(w:au):Prop:=∃a c,v=.slice a n c/\(0<n->∃g o,a=af ⟨g,o,ag⟩/\∀j u,xs[j]?=af u->w.cell? ⟨g,o+j,ag⟩=af u)
theorem EO {w:au}{B e size n:Nat}{v:aA}{xs:List aA}(h:w.ownsRow B e size v n xs):Cj v n xs w:=by
 by_cases hn:0<n
 ·obtain⟨g,cap,hv,_,hc⟩:=EM h hn
  exact⟨_,_,hv,λ_=>⟨g,0,rfl,λj u h=>by rw[dI];exact hc j u h⟩⟩
 ·obtain rfl:n=0:=iE
  rcases h.2 with⟨hv,_⟩|⟨g,cap,a,hv,_⟩
  ·exact⟨_,_,hv,λh=>absurd h (di 0)⟩
  ·exact⟨_,_,hv,λh=>absurd h (di 0)⟩
theorem cells_at:∀(M:List CM) (i k:Nat) (m:CM),M[i]?=af m->k<4->(M.flatMap CM.cells)[i*4+k]?=m.cells[k]?
 |[],_,_,_,h,_=>by simp at h
 |m0::M,0,k,m,h,a=>by
  obtain rfl:m0=m:=by simpa using h
  rw[dD,List.getElem?_append_left (by show 0*4+k<4;omega),Nat.zero_mul,dI]
 |m0::M,i+1,k,m,h,a=>by
  rw[dD,List.getElem?_append_right (by show 4<=(i+1)*4+k;omega)];have e:(i+1)*4+k - m0.cells.length=i*4+k:=by show(i+1)*4+k - 4=_;omega
  rw[e];exact cells_at M i k m (by simpa using h) a
structure xy (v:aA)(M:List CM)(w:au):Prop where
 row:Cj v M.length (M.flatMap CM.cells) w
 nms:∀m∈M,Cj m.nv m.cx.ns.length (m.cx.ns.map Value.string) w/\Cj m.fv m.cx.fs.length (m.cx.fs.map (Value.int .i64)) w
 few:M.length<=9223372036854775807/\∀m∈M,m.cx.ns.length<=9223372036854775807/\m.cx.fs.length<=9223372036854775807
structure rH (w wr:au):Prop where
 heap:wr.heap=w.heap
 below:aJ w.heap.size w wr
theorem rH.refl (w:au):rH w w:=⟨rfl,aS _ _⟩
theorem rH.drewN {w wr:au}(h:rH w wr)(n:Nat):rH w (wr.drewN n):=⟨h.heap,h.below.trans (below_drewN _ _ _)⟩
theorem rH.cell {w wr:au}(h:rH w wr)(g j:Nat):wr.cell? ⟨g,j,ag⟩=w.cell? ⟨g,j,ag⟩:=by simp only[World.cell?,h.heap]
structure TT (g o:Nat)(i:Nat)(m:CM)(w:au):Prop where
 c0:w.cell? ⟨g,o+i*4,ag⟩=af (.int .i64 m.op)
 c1:w.cell? ⟨g,o+i*4+1,ag⟩=af m.nv
 c2:w.cell? ⟨g,o+i*4+2,ag⟩=af m.fv
 c3:w.cell? ⟨g,o+i*4+3,ag⟩=af (.string m.cx.tx)
theorem xy.el {v:aA}{M:List CM}{w:au}{a:Option Addr}{c:Nat}(h:xy v M w)(hv:v=.slice a M.length c){i:Nat}(hi:i<M.length):∃g o,a=af ⟨g,o,ag⟩/\TT g o i M[i] w:=by
 obtain⟨j,l,b,hr⟩:=h.row;rw[hv]at b;injection b with e1 m e3;subst e1;obtain⟨g,o,rfl,hc⟩:=hr iE
 have e:∀k,k<4->w.cell? ⟨g,o+(i*4+k),ag⟩=M[i].cells[k]?:=λk d=>by have h:=cells_at M i k M[i] (ay hi) d;obtain⟨u,f⟩:∃u,M[i].cells[k]?=af u:=⟨_,ay d⟩;rw[f]at h⊢;exact hc _ _ h
 exact⟨g,o,rfl,e 0 iG,e 1 iG,e 2 iG,e 3 iG⟩
theorem TU (P Q:Option Addr)(ca R:Nat)(a b:List CM)(w:au)(hA:xy (.slice P a.length ca) a w)(S:xy (.slice Q b.length R) b w)(C:a.map (λm=>(m.op,m.cx))=b.map (λm=>(m.op,m.cx))):
  aQ ax 8 #[.slice P a.length ca,.slice Q b.length R] w λe w'=>e=.returned (.bool aC)/\aJ w.heap.size w w':=by
 have D:b.length=a.length:=by simpa using(ig List.length C).symm
 have E:=aI hA;have T:=aI S;have an:=aI C;have ao:=aI D;have hn:(a.length:Int)<=9223372036854775807:=by have:=hA.few.1;omega
 clear hA S C;rw[D];clear D;go_enter Tryz.func8,Tryz.ntmps8;go_wp2
 go_loopw [5] (λG wr=>∃i:Nat,G=.int .i64 i/\i<=a.length/\rH w wr) (λG _=>a.length - (intOf G).toNat)
 case atStart=>exact⟨0,rfl,aZ _,rH.refl _⟩
 case round=>
  obtain⟨i,rfl,hi,hs⟩:=hrel;obtain⟨a9,ap⟩:=iD wr;subst ap;have s:=aI hs;by_cases j:i<a.length
  ·have t:i<b.length:=by have:=ao.out;omega
   obtain⟨ga,ba,rfl,U⟩:=E.out.el rfl j;obtain⟨bb,bc,rfl,V⟩:=T.out.el rfl t;obtain⟨na,nb⟩:=E.out.nms _ (bu j);obtain⟨W,nd⟩:=T.out.nms _ (bu t);obtain⟨H,I⟩:=E.out.few.2 _ (bu j)
   have hm:(a[i].op,a[i].cx)=(b[i].op,b[i].cx):=by have l:(a.map (λm=>(m.op,m.cx)))[i]?=af (a[i].op,a[i].cx):=(by simp[j]);have u:(b.map (λm=>(m.op,m.cx)))[i]?=af (b[i].op,b[i].cx):=(by simp[t]);rw[an.out,u]at l;exact(Option.some.inj l).symm
   generalize a[i]=aq at U na nb H I hm;generalize b[i]=mb at V W nd hm;obtain⟨X,bd,be,c⟩:=aq;obtain⟨bf,bg,bh,bi⟩:=mb;simp only[Prod.mk.injEq]at hm;obtain⟨rfl,rfl⟩:=hm;obtain⟨J,n,o,K⟩:=U;obtain⟨L,b1,b2,b3⟩:=V;obtain⟨bj,bk,l,v⟩:=na;obtain⟨bl,bm,u,y⟩:=nb;obtain⟨bo,bp,Y,z⟩:=W;obtain⟨bq,br,Z,A⟩:=nd;simp only at l u Y Z J n o K L b1 b2 b3 H I v y z A;subst l u Y Z;rw[<-hs.cell]at J n o K L b1 b2 b3;generalize aa:c.ns.length=N at n b1 H v z;generalize hF:c.fs.length=F at o b2 I y A;have ar:=aI v;have av:=aI y;have aw:=aI z;have aD:=aI A;have aE:=aI aa;have aF:=aI hF;have bs:(N:Int)<=9223372036854775807:=iE;have bt:(F:Int)<=9223372036854775807:=iE;have aG:(i:Int)<(a.length:Int):=iE;have bv:(0:Int)<=i:=iE;have bw:(X !=X)=ah:=bne_self_eq_false _;have bx:((N:Int)!=(N:Int))=ah:=bne_self_eq_false _;have bA:((F:Int)!=(F:Int))=ah:=bne_self_eq_false _;clear t v y z A aa hF hs hi j
   go_upto_region 6 with fail
   go_big_quiet (fail)
   go_wp2
   go_loopw [6] (λd M=>∃k:Nat,d=.int .i64 k/\k<=N/\rH w M) (λd _=>N - (intOf d).toNat)
   case atStart=>exact⟨0,rfl,aZ _,by first|exact s.out|exact s.out.drewN _⟩
   case round=>
    obtain⟨k,rfl,ab,g⟩:=hrel;have p:=aI g;rw[s.out.cell,<-g.cell]at n o b1 b2;by_cases r:k<N
    ·obtain⟨g1,aL,rfl,ac⟩:=ar.out iE
     obtain⟨aM,aR,rfl,ad⟩:=aw.out iE;have O:(k:Int)<(N:Int):=iE;have a0:(0:Int)<=k:=iE;have f:k<c.ns.length:=(by have:=aE.out;omega);have a1:wr.cell? ⟨g1,aL+k,ag⟩=af (.string c.ns[k]):=(by rw[g.cell];exact ac _ _ (by simp[f]));have a2:wr.cell? ⟨aM,aR+k,ag⟩=af (.string c.ns[k]):=(by rw[g.cell];exact ad _ _ (by simp[f]));generalize c.ns[k]=bB at a1 a2;clear ac ad f g ab;clear J K L b3
     go_upto_region 11 with fail
     go_big_quiet (fail)
     go_wp2;go_roundw
     case rel=>exact⟨k+1,by go_num,r,by first|exact p.out|exact p.out.drewN _⟩
     case measure=>simp[intOf];omega
    ·have O:((k:Int)<(N:Int))=False:=iI
     clear g ab r;obtain⟨bE,a3⟩:=iD wr;subst a3;go_wp2
     go_loopw [7] (λd M=>∃k:Nat,d=.int .i64 k/\k<=F/\rH w M) (λd _=>F - (intOf d).toNat)
     case atStart=>exact⟨0,rfl,aZ _,by first|exact p.out|exact p.out.drewN _⟩
     case round=>
      obtain⟨q,rfl,ai,h⟩:=hrel;have B:=aI h;rw[p.out.cell,<-h.cell]at o b2;by_cases r:q<F
      ·obtain⟨g2,a4,rfl,ak⟩:=av.out iE
       obtain⟨a5,a6,rfl,al⟩:=aD.out iE;have O:(q:Int)<(F:Int):=iE;have a0:(0:Int)<=q:=iE;have f:q<c.fs.length:=(by have:=aF.out;omega);have a7:wr.cell? ⟨g2,a4+q,ag⟩=af (.int .i64 c.fs[q]):=(by rw[h.cell];exact ak _ _ (by simp[f]));have a8:wr.cell? ⟨a5,a6+q,ag⟩=af (.int .i64 c.fs[q]):=(by rw[h.cell];exact al _ _ (by simp[f]));generalize c.fs[q]=am at a7 a8;have bL:(am !=am)=ah:=bne_self_eq_false _;clear ak al f h ai n b1
       go_upto_region 16 with fail
       go_big_quiet (fail)
       go_wp2;go_roundw
       case rel=>exact⟨q+1,by go_num,r,by first|exact B.out|exact B.out.drewN _⟩
       case measure=>simp[intOf];omega
      ·have O:((q:Int)<(F:Int))=False:=iI
       clear h ai r;go_wp2;go_roundw
       case rel=>exact⟨i+1,by go_num,iE,by first|exact B.out|exact B.out.drewN _⟩
       case measure=>simp[intOf];omega
  ·have aG:((i:Int)<(a.length:Int))=False:=iI
   go_wp2;go_ret;exact⟨rfl,s.out.below⟩
theorem kZ (l:List UInt8):(⟨l.toArray⟩:ByteArray).size=l.length:=by simp[ByteArray.size]
def uF:Bool->List UInt8->Bool
 |_,[]=>aC
 |f,c::t=>sN c.toNat f&&uF ah t
def zV (l:List UInt8):List UInt8:=bG (aY l [34]) [34]
def xA (l:List UInt8):Bool:=if dm l [34]=ah then ah else if dn (aY l [34]) [34]=ah then ah else if zV l=[]then ah else uF aC (zV l)
def yN (r:List UInt8)(i:Nat):Prop:=i<=r.length/\uF aC r=uF (i==0) (r.drop i)
theorem Us (r:List UInt8):yN r 0:=⟨aZ _,iH⟩
theorem Ut {r:List UInt8}{i:Nat}(h:yN r i)(hi:i<r.length)(a:sN (r[i].toNat) (i==0)=aC):yN r (i+1):=by
 refine⟨hi,?_⟩;rw[h.2,drop_cons hi,uF,a,Bool.true_and];have:(i+1==0)=ah:=iH
 rw[this]
theorem Uu {r:List UInt8}{i:Nat}(h:yN r i)(hi:i<r.length)(a:sN (r[i].toNat) (i==0)=ah):uF aC r=ah:=by rw[h.2,drop_cons hi,uF,a,Bool.false_and]
theorem Uw {r:List UInt8}{i:Nat}(h:yN r i)(hi:¬i<r.length):uF aC r=aC:=by
 rw[h.2,bU iE]
 rfl
theorem CJ (l p:List UInt8):(aY l p).length<=l.length:=by
 unfold aY;split
 ·simp
 ·exact az _
theorem Ux (l p:List UInt8):(bG l p).length<=l.length:=by
 unfold bG;split
 ·simp
 ·exact az _
def Uy (b:Bool)(e:Ending):Prop:=∃t,e=.returned (.tuple #[.string t,.bool b])
theorem Uz (s:ByteArray)(w:au)(hs:s.size<=100000000):
  aQ ax 59 #[.string s] w λe w'=>Uy (xA s.data.toList) e/\w=w':=by
 have F:s.data.toList.length=s.size:=iH
 have a:=ae (show xA s.data.toList=if dm s.data.toList [34]=ah then ah else if dn (aY s.data.toList [34]) [34]=ah then ah else if zV s.data.toList=[]then ah else uF aC (zV s.data.toList)from rfl);generalize xA s.data.toList=R at a⊢;have j:=ae λW:au=>Tryz.strings_CutPrefix s ⟨#[34]⟩ W
 rw[show(⟨#[34]⟩:ByteArray).data.toList=[34]from rfl]at j;have C:=CJ s.data.toList [34];unfold zV at a;generalize aY s.data.toList [34]=k at j a C;have c:=ae λW:au=>Tryz.strings_CutSuffix ⟨k.toArray⟩ ⟨#[34]⟩ W (by rw[kZ];omega)
 rw[show(⟨#[34]⟩:ByteArray).data.toList=[34]from rfl,show(⟨k.toArray⟩:ByteArray).data.toList=k from rfl]at c;have D:=Ux k [34];generalize bG k [34]=b at c a D;generalize dm s.data.toList [34]=b1 at j a;generalize dn k [34]=b2 at c a;have q:b.length<=100000000:=iE
 clear C D F hs;obtain⟨S,hS⟩:∃S:ByteArray,(⟨b.toArray⟩:ByteArray)=S:=⟨_,rfl⟩;have d:S.data.toList=b:=by rw[<-hS]
 have m:S.size=b.length:=by rw[<-hS];exact kZ _
 rw[hS]at c;have y:=ae (iJ d m);clear hS;cases b1 with
 |false=>
  have g:=ae (a.1.trans (gY rfl));clear d m q;go_enter bV,bJ
  go_wp2_with(first
   |(go_at_call 51;refine(j.1 _).mono ?_;rintro e o ⟨rfl,rfl⟩)
   |(go_at_call 65;refine(c.1 _).mono ?_;rintro e z ⟨rfl,rfl⟩))
  go_ret2;exact⟨⟨_,by rw[g.1];rfl⟩,rfl⟩
 |true=>
  have a:=ae (a.1.trans (gZ iG));cases b2 with
  |false=>
   have g:=ae (a.1.trans (gY rfl));clear d m q;go_enter bV,bJ
   go_wp2_with(first
    |(go_at_call 51;refine(j.1 _).mono ?_;rintro e o ⟨rfl,rfl⟩)
    |(go_at_call 65;refine(c.1 _).mono ?_;rintro e z ⟨rfl,rfl⟩))
   go_ret2;exact⟨⟨_,by rw[g.1];rfl⟩,rfl⟩
  |true=>
   have a:=ae (a.1.trans (gZ iG));by_cases l:b=[]
   ·have g:=ae (a.1.trans (gY l))
    have G:S=⟨#[]⟩:=ext_list (by rw[d,l]);subst G;clear d m q l;go_enter bV,bJ
    go_wp2_with(first
     |(go_at_call 51;refine(j.1 _).mono ?_;rintro e o ⟨rfl,rfl⟩)
     |(go_at_call 65;refine(c.1 _).mono ?_;rintro e z ⟨rfl,rfl⟩))
    go_ret2;exact⟨⟨_,by rw[g.1];rfl⟩,rfl⟩
   ·have g:=ae (a.1.trans (gZ l))
    have H:¬S.toList=[]:=λe=>by have:=(toList_nil_iff_emptyBytes S).1 e;rw[this]at d;exact l d.symm
    have L:S.toList.isEmpty=ah:=by
     cases h:S.toList with
     |nil=>exact absurd h H
     |cons x r=>rfl
    have M:(S.size:Int)<=100000000:=iE;clear d m q l
    as_aux_lemma=>
    go_enter bV,bJ
    go_wp2_with(first
     |(go_at_call 51;refine(j.1 _).mono ?_;rintro e o ⟨rfl,rfl⟩)
     |(go_at_call 65;refine(c.1 _).mono ?_;rintro e z ⟨rfl,rfl⟩))
    go_loop [30] (λn=>∃i:Nat,n=.int .i64 i/\yN b i) (λn=>S.size - (intOf n).toNat)
    case atStart=>exact⟨0,rfl,Us b⟩
    case round=>
     obtain⟨i,rfl,hr⟩:=hrel;by_cases I:i<S.size
     ·have A:i<b.length:=by have:=y.1.2;omega
      have B:b[i]=S[i]:=by have t:b[i]?=S.data.toList[i]?:=(by rw[y.1.1]);rw[ay A,ay (by simpa using I)]at t;exact Option.some.inj t
      have J:(i:Int)<S.size:=iE;obtain⟨f,hf⟩:=iC ((i==0))
      have e1:((i:Int)==0)=f:=by
       rw[<-hf];by_cases h:i=0
       ·subst h;rfl
       ·have t:(i==0)=ah:=by simpa using h
        have K:((i:Int)==0)=ah:=iI;rw[t,K]
      have u:=Ut hr A;have v:=Uu hr A;rw[B,hf]at u v;cases E:sN (S[i].toNat) f
      ·have p:=aI (v E)
       clear u v B hf hr
       go_wp2_with(go_at_call 56;refine(BK _ _ _).mono ?_;rintro e o ⟨rfl,rfl⟩)
       go_ret2;exact⟨⟨_,by rw[g.1,p.out];rfl⟩,rfl⟩
      ·have p:=aI (u E)
       clear u v B hf hr
       go_wp2_with(go_at_call 56;refine(BK _ _ _).mono ?_;rintro e o ⟨rfl,rfl⟩)
       go_round
       case rel=>exact⟨i+1,by go_num,p.out⟩
       case measure=>simp[intOf];omega
     ·have J:¬(i:Int)<S.size:=iE
      have p:=aI (Uw hr (by have:=y.1.2;omega));clear hr;go_wp2;go_ret2;exact⟨⟨_,by rw[g.1,p.out];rfl⟩,rfl⟩
def yO (x:Nat):Bool:=decide (48<=x/\x<=57)
def oW:List UInt8->Nat
 |[]=>0
 |c::t=>if yO c.toNat then oW t+1 else 0
def xB (r:List UInt8)(i:Nat):Prop:=i<=r.length/\oW r=i+oW (r.drop i)
theorem UA (r:List UInt8):xB r 0:=⟨aZ _,iH⟩
theorem UB {r:List UInt8}{i:Nat}(h:xB r i)(hi:i<r.length)(a:yO r[i].toNat=aC):xB r (i+1):=by refine⟨hi,?_⟩;rw[h.2,drop_cons hi,oW,gY a];omega
theorem JC {r:List UInt8}{i:Nat}(h:xB r i)(hi:i<r.length)(a:yO r[i].toNat=ah):oW r=i:=by rw[h.2,drop_cons hi];unfold oW;rw[a];simp
theorem UC {r:List UInt8}{i:Nat}(h:xB r i)(hi:¬i<r.length):oW r=i:=by
 rw[h.2,bU iE]
 rfl
def zW (l:List UInt8):Bool:=oW l==0||decide (9<oW l)||(decide (1<oW l)&&l.getD 0 0==48)
def lZ (l:List UInt8):Int×List UInt8×Bool:=if zW l=aC then(0,l,ah)else((dJ (l.take (oW l))).getD 0,l.drop (oW l),aC)
theorem ES (l:List UInt8):(lZ l).2.1.length<=l.length:=by
 unfold lZ;split
 ·exact az _
 ·simp
def xC (l:List UInt8)(e:Ending):Prop:=e=.returned (.tuple #[.int .i64 (lZ l).1,.string ⟨(lZ l).2.1.toArray⟩,.bool (lZ l).2.2])
theorem JD (s:ByteArray)(w:au)(hs:s.size<=100000000)(B:jM w):
  aQ ax 52 #[.string s] w λe w'=>xC s.data.toList e/\aJ w.heap.size w w':=by
 have C:s.data.toList.length=s.size:=iH
 have D:(⟨s.data.toList.toArray⟩:ByteArray)=s:=iH
 have t:=ae (iJ C D);have K:=ae B;clear B C D
 as_aux_lemma=>
 go_enter Tryz.func52,Tryz.ntmps52;go_wp2
 go_loop [5] (λn=>∃i:Nat,n=.int .i64 i/\xB s.data.toList i) (λn=>s.size - (intOf n).toNat)
 case atStart=>exact⟨0,rfl,UA _⟩
 case round=>
  obtain⟨i,rfl,hr⟩:=hrel;have O:i<=s.size:=by have:=hr.1;have:=t.1.1;omega
  have j:(∃a:i<s.size,48<=(s[i].toNat:Int)/\(s[i].toNat:Int)<=57/\xB s.data.toList (i+1))\/(oW s.data.toList=i/\(¬i<s.size\/(∃a:i<s.size,¬48<=(s[i].toNat:Int))\/∃a:i<s.size,48<=(s[i].toNat:Int)/\¬(s[i].toNat:Int)<=57)):=by
   by_cases a:i<s.size
   ·have u:i<s.data.toList.length:=by have:=t.1.1;omega
    have k:s.data.toList[i]=s[i]:=rfl;by_cases b:48<=(s[i].toNat:Int)
    ·by_cases c:(s[i].toNat:Int)<=57
     ·exact .inl ⟨a,b,c,UB hr u (by rw[k];unfold yO;rw[decide_eq_true_eq];omega)⟩
     ·exact .inr ⟨JC hr u (by rw[k];unfold yO;rw[decide_eq_false_iff_not];omega),.inr (.inr ⟨a,b,c⟩)⟩
    ·exact .inr ⟨JC hr u (by rw[k];unfold yO;rw[decide_eq_false_iff_not];omega),.inr (.inl ⟨a,b⟩)⟩
   ·exact .inr ⟨UC hr (by have:=t.1.1;omega),.inl a⟩
  clear hr;rcases j with⟨a,b,c,hr⟩|⟨q,j⟩
  ·have L:=ae hr
   have f:(i:Int)<s.size:=iE;clear hr;go_wp2;go_round
   case rel=>exact⟨i+1,by go_num,L.1⟩
   case measure=>simp[intOf];omega
  ·have P:=ae q
   have x:=ae (show lZ s.data.toList=if zW s.data.toList=aC then(0,s.data.toList,ah)else((dJ (s.data.toList.take (oW s.data.toList))).getD 0,s.data.toList.drop (oW s.data.toList),aC)from rfl);rw[q]at x
   have g:(zW s.data.toList=aC/\((i:Int)=0\/(¬(i:Int)=0/\9<(i:Int))\/(¬(i:Int)=0/\¬9<(i:Int)/\1<(i:Int)/\∃h:0<s.size,((s[0].toNat:Int)==48)=aC)))\/(zW s.data.toList=ah/\¬(i:Int)=0/\¬9<(i:Int)/\(¬1<(i:Int)\/(1<(i:Int)/\∃h:0<s.size,((s[0].toNat:Int)==48)=ah))):=by
    unfold zW;rw[q];by_cases b:i=0
    ·exact .inl ⟨by simp[b],.inl iE⟩
    by_cases c:9<i
    ·exact .inl ⟨by simp[c],.inr (.inl ⟨iE,iE⟩)⟩
    by_cases d:1<i
    ·have h:0<s.size:=iE
     have k:=lC s 0 h;by_cases l:s[0]=48
     ·exact .inl ⟨by rw[k,l];simp[d],.inr (.inr ⟨iE,iE,iE,h,by rw[l];rfl⟩)⟩
     ·refine .inr ⟨by rw[k];simp[b,c,l],iE,iE,.inr ⟨iE,h,?_⟩⟩
      rw[iy];intro e;exact l (bQ.1 (by have Q:(48:UInt8).toNat=48:=rfl;omega))
    ·exact .inr ⟨by simp[b,c,d],iE,iE,.inl iE⟩
   clear q;have R:(i:Int)<=(s.size:Int):=iE;rcases g with⟨o,g⟩|⟨o,n0,S,g⟩
   ·have m:=ae (x.1.trans (gY o))
    clear o;rcases g with d|g
    ·obtain rfl:i=0:=iE
     clear d;rcases j with a|⟨a,b⟩|⟨a,b,c⟩
     all_goals
      first
       |(have f:((0:Nat):Int)<s.size:=iE)
       |(have f:¬((0:Nat):Int)<s.size:=iE)
      go_wp2;go_ret3;exact⟨by unfold xC;rw[m.1];rfl,aS _ _⟩
    ·rcases j with a|⟨a,b⟩|⟨a,b,c⟩
     all_goals rcases g with⟨d,l⟩|⟨d,l,T,h,E⟩
     all_goals
      first
       |(have f:(i:Int)<s.size:=iE)
       |(have f:¬(i:Int)<s.size:=iE)
      try(have F:(0:Int)<s.size:=iE)
      have M:((i:Int)==0)=ah:=(by rw[iy];exact d);go_wp2;go_ret3;exact⟨by unfold xC;rw[m.1];rfl,aS _ _⟩
   ·have m:=ae (x.1.trans (gZ (by rw[o];decide)))
    have y:s.extract 0 i=⟨(s.data.toList.take i).toArray⟩:=BP s i;have G:(s.extract 0 i).data.toList=s.data.toList.take i:=by rw[y]
    have H:s.extract i s.size=⟨(s.data.toList.drop i).toArray⟩:=ext_list (by simp[bn];exact bW iH)
    have I:=ae H;have r:=ae (((K.1.v.ok) w (aS _ _)).1 (s.extract 0 i) (by rw[y,kZ,List.length_take];omega));rw[G]at r;have M:((i:Int)==0)=ah:=(by rw[iy];exact n0);obtain⟨z,J⟩:=iC (dJ (s.data.toList.take i));rw[J]at r m;clear o y G H J;have U:0<=(i:Int):=iE;cases z with
    |some v=>
     rcases j with a|⟨a,b⟩|⟨a,b,c⟩
     all_goals rcases g with d|⟨d,h,E⟩
     all_goals
      as_aux_lemma=>
      first
       |(have f:(i:Int)<s.size:=iE)
       |(have f:¬(i:Int)<s.size:=iE)
      try(have F:(0:Int)<s.size:=iE)
      go_wp2_with(go_at_call 55;refine(r.1).mono ?_;rintro e N ⟨rfl,p⟩;have A:=ae p;clear p)
      go_quiet (fail)
      go_wp2;go_ret3;exact⟨by unfold xC;rw[m.1];show _=Ending.returned (Value.tuple #[_,Value.string ⟨(s.data.toList.drop i).toArray⟩,_]);rw[<-I.1];rfl,A.1.trans (below_drewN _ _ _)⟩
    |none=>
     rcases j with a|⟨a,b⟩|⟨a,b,c⟩
     all_goals rcases g with d|⟨d,h,E⟩
     all_goals
      as_aux_lemma=>
      first
       |(have f:(i:Int)<s.size:=iE)
       |(have f:¬(i:Int)<s.size:=iE)
      try(have F:(0:Int)<s.size:=iE)
      go_wp2_with(go_at_call 55;refine(r.1).mono ?_;rintro e N ⟨⟨tt,pp,rfl⟩,p⟩;have A:=ae p;clear p)
      go_quiet (fail)
      go_wp2;go_ret3;exact⟨by unfold xC;rw[m.1];show _=Ending.returned (Value.tuple #[_,Value.string ⟨(s.data.toList.drop i).toArray⟩,_]);rw[<-I.1];rfl,A.1.trans (below_drewN _ _ _)⟩
theorem Ub (l:List UInt8):∀p,uq l=af p->p.1.length<=l.length:=by
 induction hn:l.length using Nat.strongRecOn generalizing l with
 |_ n a=>
  intro p hp
  have go:∀(r:List UInt8) (c:UInt8),r.length<n->(uq r).map (λp=>(c::p.1,p.2))=af p->p.1.length<=n:=by
   intro r c hr he;cases h:uq r with
   |none=>rw[h]at he;cases he
   |some q=>
    rw[h]at he;obtain rfl:(c::q.1,q.2)=p:=by simpa using he
    have:=a _ hr r rfl q h
    simp;omega
  cases l with
  |nil=>cases hp
  |cons c r=>
   subst hn;unfold uq at hp;split at hp
   ·obtain rfl:=Option.some.inj hp;simp
   split at hp
   ·cases hp
   split at hp
   ·exact go r _ iH hp
   split at hp
   ·cases hp
   rename_i e r2;split at hp
   ·exact go r2 _ iI hp
   split at hp
   ·exact go r2 _ iI hp
   split at hp
   ·exact go r2 _ iI hp
   split at hp
   ·exact go r2 _ iI hp
   split at hp
   ·split at hp
    ·split at hp
     ·cases hp
     ·exact go _ _ iI hp
    ·cases hp
   ·cases hp
theorem Uc (l:List UInt8):(lX l).length<=l.length:=by
 unfold lX;cases h:rE l with
 |none=>simp
 |some p=>
  unfold rE at h;split at h
  ·have:=Ub _ p h
   rw[bz]at this;simp only;omega
  ·cases h
theorem Jt {pp:List UInt8->Bool}{D:Nat}(c:∀t:List UInt8,t.length<=D->qK t (pp t))(l:List UInt8)(d:l.length<=D):∀(b:List AK) (a:Nat),nP pp l b a
 |[],_=>trivial
 |_::b,a=>λ_ _ _=>⟨λ_=>c _ (aT (Uc _) (by rw[bz];omega)),λ_=>Jt c l d b _⟩
theorem Ud {pp:List UInt8->Bool}{D:Nat}(a:∀t:List UInt8,t.length<=D->qK t (pp t))(l:List UInt8)(b:l.length<=D):uD pp l:=by
 unfold uD;split
 ·trivial
 ·exact Jt a l b _ _
theorem Ju {pp:List UInt8->Bool}{D:Nat}(a:∀t:List UInt8,t.length<=D->qK t (pp t)):∀(n:Nat) (l:List UInt8),l.length<=D->sV pp n l
 |0,_,_=>trivial
 |n+1,l,b=>λ_=>⟨λ_=>Ud a _ (aT (qE 10 l) b),Ju a n _ (by rw[bz];omega)⟩
theorem zS {w:au}{B e size n:Nat}{v:aA}{xs:List aA}(h:w.ownsRow B e size v n xs):∃a c,v=.slice a n c/\n<=c/\c<=maxLen:=by
 rcases h.2 with⟨rfl,b⟩|⟨g,cap,i,rfl,_,_,d,f,_⟩
 ·exact⟨ag,0,by rw[b],iE,by unfold maxLen;omega⟩
 ·exact⟨_,_,rfl,d,f⟩
theorem Jr {B:Nat}{v:aA}{M:List CM}{w:au}(h:w.ownsRow B 38 4 v M.length (M.flatMap CM.cells))(hr:∀m∈M,∃B,qc B m.nv m.cx.ns w/\qg B m.fv m.cx.fs w):xy v M w:=by
 have c:∀{B e size n:Nat} {v:aA} {xs:List aA},w.ownsRow B e size v n xs->n<=9223372036854775807:=λh=>by obtain⟨_,_,_,b,a⟩:=zS h;unfold maxLen at a;omega
 refine⟨EO h,λm hm=>?_,c h,λm hm=>?_⟩
 ·obtain⟨B,b,a⟩:=hr m hm
  exact⟨EO b,EO a⟩
 ·obtain⟨B,b,a⟩:=hr m hm
  exact⟨c b,c a⟩
end Go.Proofs.YthcalnnipjflkaaGreatDoor
namespace Go.Proofs.YthcalnnipjflkaaGreatDoor
open Go.RowKit Go.Sort
open Go.Lib hiding intOf
def V7 (lt:Int->Int->Bool)(d:Array Int)(n:Nat):Array Int:=pdq lt d 0 n (bitsLen n) aC aC
def nC (n:Nat):Array Int:=((aW n).map λi:Nat=>(i:Int)).toArray
def kW (l:List Int)(x:Int):Option Nat:=(l[x.toNat]?).map Int.toNat
def cO (c:Nat->Nat->Int):Option Nat->Option Nat->Int
 |some a,af b=>c a b
 |_,_=>0
def uX (c:Nat->Nat->Int)(n:Nd)(a b:Int):Int:=cO c (kW n.keys a) (kW n.keys b)
def jY (N:List Nd)(c:Nat->Nat->Int)(i:Nat):List Int:=
 if(N.getD i nd0).kind=10/\(N.getD i nd0).ord=ah then(V7 (ltOf (uX c (N.getD i nd0))) (nC (N.getD i nd0).items.length) (N.getD i nd0).items.length).toList
 else(nC (N.getD i nd0).items.length).toList
def rQ (c:Nat->Nat->Int)(x y:Nd)(p q:List Int)(k:Nat):Int:=
 if x.kind=10 then
  (if cO c (kW x.keys (p.getD k 0)) (kW y.keys (q.getD k 0))≠0 then cO c (kW x.keys (p.getD k 0)) (kW y.keys (q.getD k 0))
  else cO c (kW x.items (p.getD k 0)) (kW y.items (q.getD k 0)))
 else cO c (kW x.items (p.getD k 0)) (kW y.items (q.getD k 0))
def xK (g:Nat->Int)(n:Nat):Int:=match(aW n).find? (λk=>!(g k==0))with
 |some k=>g k
 |none=>0
theorem V8 {g:Nat->Int}{n k:Nat}(a:k<n)(b:∀j,j<k->g j=0)(h:g k≠0):xK g n=g k:=by
 unfold xK
 have:(aW n).find? (λk=>!(g k==0))=af k:=by rw[List.find?_range_eq_some];refine⟨by simp[h],bZ.2 a,λj c=>by simp[b j c]⟩
 rw[this]
theorem V9 {g:Nat->Int}{n:Nat}(a:∀j,j<n->g j=0):xK g n=0:=by
 unfold xK
 have:(aW n).find? (λk=>!(g k==0))=ag:=by rw[List.find?_eq_none];intro k b;simp[a k (bZ.1 b)]
 rw[this]
def bodyC (N:List Nd)(c:Nat->Nat->Int)(i j:Nat):Int:=
 if(N.getD i nd0).kind<(N.getD j nd0).kind then -1
 else if(N.getD i nd0).kind>(N.getD j nd0).kind then 1
 else if(N.getD i nd0).ord≠(N.getD j nd0).ord then(if(N.getD j nd0).ord=aC then -1 else 1)
 else if yR (N.getD i nd0).kind (N.getD i nd0).text (N.getD j nd0).text≠0 then yR (N.getD i nd0).kind (N.getD i nd0).text (N.getD j nd0).text
 else if xK (rQ c (N.getD i nd0) (N.getD j nd0) (jY N c i) (jY N c j)) (min (jY N c i).length (jY N c j).length)≠0 then
  xK (rQ c (N.getD i nd0) (N.getD j nd0) (jY N c i) (jY N c j)) (min (jY N c i).length (jY N c j).length)
 else if(jY N c i).length<(jY N c j).length then -1
 else if(jY N c i).length>(jY N c j).length then 1 else 0
def pO (N:List Nd):Nat->Nat->Nat->Int
 |0,_,_=>0
 |f+1,i,j=>bodyC N (pO N f) i j
def Agree (N:List Nd)(i j:Nat)(c d:Nat->Nat->Int):Prop:=∀x∈(N.getD i nd0).keys++(N.getD i nd0).items++((N.getD j nd0).keys++(N.getD j nd0).items),∀y∈(N.getD i nd0).keys++(N.getD i nd0).items++((N.getD j nd0).keys++(N.getD j nd0).items),c x.toNat y.toNat=d x.toNat y.toNat
theorem Fh {c d:Nat->Nat->Int}{l m:List Int}(h:∀x∈l,∀y∈m,c x.toNat y.toNat=d x.toNat y.toNat)(a b:Int):cO c (kW l a) (kW m b)=cO d (kW l a) (kW m b):=by
 unfold kW;cases ha:l[a.toNat]? with
 |none=>rfl
 |some x=>
  cases e:m[b.toNat]? with
  |none=>rfl
  |some y=>exact h x (bD ha) y (bD e)
theorem J6 {N:List Nd}{i:Nat}{c d:Nat->Nat->Int}(h:∀x∈(N.getD i nd0).keys,∀y∈(N.getD i nd0).keys,c x.toNat y.toNat=d x.toNat y.toNat):jY N c i=jY N d i:=by unfold jY;rw[show uX c (N.getD i nd0)=uX d (N.getD i nd0)from by funext a b;exact Fh h a b]
theorem We {N:List Nd}{i j:Nat}{c d:Nat->Nat->Int}(h:Agree N i j c d):bodyC N c i j=bodyC N d i j:=by
 have e1:jY N c i=jY N d i:=J6 λx hx y hy=>h x (aB _ (aB _ hx)) y (aB _ (aB _ hy))
 have a:jY N c j=jY N d j:=J6 λx hx y hy=>h x (aN _ (aB _ hx)) y (aN _ (aB _ hy))
 have e3:rQ c (N.getD i nd0) (N.getD j nd0) (jY N d i) (jY N d j)=rQ d (N.getD i nd0) (N.getD j nd0) (jY N d i) (jY N d j):=by
  funext k
  unfold rQ;rw[Fh (l:=(N.getD i nd0).keys) (m:=(N.getD j nd0).keys) (λx hx y hy=>h x (aB _ (aB _ hx)) y (aN _ (aB _ hy))) ((jY N d i).getD k 0) ((jY N d j).getD k 0),Fh (l:=(N.getD i nd0).items) (m:=(N.getD j nd0).items) (λx hx y hy=>h x (aB _ (aN _ hx)) y (aN _ (aN _ hy))) ((jY N d i).getD k 0) ((jY N d j).getD k 0)]
 unfold bodyC;rw[e1,a,e3]
theorem J7 {N:List Nd}{K:Nat->Prop}{H:Nat->Nat}(a:uT N K H):∀f i j,K i->K j->H i<f->H j<f->pO N (f+1) i j=pO N f i j
 |0,_,_,_,_,h,_=>absurd h (bF _)
 |f+1,i,j,hi,b,c,d=>by
  show bodyC N (pO N (f+1)) i j=bodyC N (pO N f) i j
  have key:∀x∈(N.getD i nd0).keys++(N.getD i nd0).items++((N.getD j nd0).keys++(N.getD j nd0).items),K x.toNat/\H x.toNat<f:=λx hx=>by
   rcases List.mem_append.1 hx with h|h
   ·have:=(a i hi).2 x h;exact⟨this.1,iE⟩
   ·have:=(a j b).2 x h;exact⟨this.1,iE⟩
  exact We λx hx y hy=>J7 a f _ _ (key x hx).1 (key y hy).1 (key x hx).2 (key y hy).2
theorem Wh {N:List Nd}{K:Nat->Prop}{H:Nat->Nat}(a:uT N K H){F:Nat}{i j:Nat}(hi:K i)(b:K j)(c:H i<F)(d:H j<F):pO N F i j=bodyC N (pO N F) i j:=(J7 a F i j hi b c d).symm
theorem Wi (n:Nat):(nC n).size=n:=by simp[nC]
theorem Wj {n i:Nat}(hi:i<n):(nC n)[i]! =(i:Int):=by simp[nC,hi]
structure qp (l:List Int)(L:Nat):Prop where
 len:l.length=L
 pm:l.Perm (nC L).toList
structure CT (N:List Nd)(v:aA)(root:Int)(tb sr:Nat)(ent:Nat->List Int)(w0:au)(E:List aA)(X:au):Prop where
 nodes:jJ w0 v N
 below:aJ w0.heap.size w0 X
 lo:w0.heap.size<=sr
 tab:TabAt X tb sr v root N.length E
 val:∀i,i<N.length->E.getD i jr=jr\/∃eb,E.getD i jr=.slice (af ⟨eb,0,ag⟩) (N.getD i nd0).items.length (N.getD i nd0).items.length/\
  X.heap[eb]?=af (.cells ((ent i).map (Value.int .i64)).toArray 3)/\qp (ent i) (N.getD i nd0).items.length/\∀x∈ent i,0<=x/\x<((N.getD i nd0).items.length:Int)
structure KT (sr:Nat)(E E':List aA)(X Y:au):Prop where
 g:X.grownBy Y (af sr)
 new:∀i,E'.getD i jr=E.getD i jr\/∃eb L c,E'.getD i jr=.slice (af ⟨eb,0,ag⟩) L c/\X.heap.size<=eb
theorem KT.refl (sr:Nat)(E:List aA)(X:au):KT sr E E X X:=⟨CZ (aS _ _) _,λ_=>.inl rfl⟩
theorem KT.trans {sr:Nat}{E F b:List aA}{X Y Z:au}(h:KT sr E F X Y)(k:KT sr F b Y Z):KT sr E b X Z:=⟨h.g.trans k.g,λi=>by
 rcases k.new i with a|⟨d,L,c,a,e⟩
 ·rw[a];exact h.new i
 ·exact .inr ⟨d,L,c,a,aT h.g.size e⟩⟩
theorem KT.below {sr:Nat}(E:List aA){X Y:au}(h:aJ X.heap.size X Y):KT sr E E X Y:=⟨CZ h _,λ_=>.inl rfl⟩
section
variable {N:List Nd} {v:aA} {root:Int} {tb sr:Nat} {ent:Nat->List Int} {w0:au} {E:List aA} {X Y:au}
theorem CT.keep (h:CT N v root tb sr ent w0 E X)(a:aJ X.heap.size X Y):CT N v root tb sr ent w0 E Y:=
 ⟨h.nodes,h.below.trans (a.mono h.below.size),h.lo,h.tab.below a,λi hi=>by
  rcases h.val i hi with b|⟨c,b,d,e⟩
  ·exact .inl b
  ·exact .inr ⟨c,b,Mix.lu a d,e⟩⟩
theorem CT.uniq {F:List aA}(h:CT N v root tb sr ent w0 E X)(k:CT N v root tb sr ent w0 F X):E=F:=by have a:=h.tab.row.symm.trans k.tab.row;injection a with a;injection a with a b c;exact List.toArray_inj a
theorem CT.Fq (h:CT N v root tb sr ent w0 E X):jJ X v N:=h.nodes.below h.below
def iY (N:List Nd)(v:aA)(root:Int)(tb sr:Nat)(ent:Nat->List Int)(w0:au)(X Y:au):Prop:=∀E,CT N v root tb sr ent w0 E X->∃a,CT N v root tb sr ent w0 a Y/\KT sr E a X Y
theorem iY.refl (X:au):iY N v root tb sr ent w0 X X:=λE h=>⟨E,h,KT.refl _ _ _⟩
theorem iY.trans {Z:au}(h:iY N v root tb sr ent w0 X Y)(k:iY N v root tb sr ent w0 Y Z):iY N v root tb sr ent w0 X Z:=λE a=>by obtain⟨b,c,d⟩:=h E a;obtain⟨F,e,f⟩:=k b c;exact⟨F,e,d.trans f⟩
theorem iY.below (h:aJ X.heap.size X Y):iY N v root tb sr ent w0 X Y:=λE a=>⟨E,a.keep h,KT.below E h⟩
theorem iY.drew (X:au):iY N v root tb sr ent w0 X {X with drawn:=X.drawn+1}:=iY.below ⟨rfl,rfl,rfl,az _,λ_ _=>rfl⟩
theorem iY.block (h:iY N v root tb sr ent w0 X Y)(b:CT N v root tb sr ent w0 E X){k:Nat}{o:Obj}(c:k≠sr)(a:X.heap[k]?=af o):Y.heap[k]?=af o:=by obtain⟨f,_,d⟩:=h E b;rw[d.g.block k (block_lt a) (by intro e;injection e with e;exact c e)];exact a
def pU (N:List Nd)(v:aA)(root:Int)(tb sr:Nat)(ent:Nat->List Int)(w0:au)(x y c:Int):Prop:=∀X E,CT N v root tb sr ent w0 E X->
 aQ ax 111 #[.pointer (af ⟨tb,0,ag⟩),.int .i64 x,.pointer (af ⟨tb,0,ag⟩),.int .i64 y,.map ag] X λe Y=>e=.returned (.int .i64 c)/\∃a,CT N v root tb sr ent w0 a Y/\KT sr E a X Y
theorem WA (a b i o p nb no:Nat)(c:Int)(hi:i<N.length)(ha:a<(N.getD i nd0).keys.length)(q:b<(N.getD i nd0).keys.length){vc:Nat}(hv:v=.slice (af ⟨nb,no,ag⟩) N.length vc)
  (hc:pU N v root tb sr ent w0 ((N.getD i nd0).keys.getD a 0) ((N.getD i nd0).keys.getD b 0) c)(d:CT N v root tb sr ent w0 E X)
  (D:X.heap[o]?=af (.cells #[.pointer (af ⟨tb,0,ag⟩)] 138))(F:X.heap[p]?=af (.cells #[.pointer (af ⟨nb,no+i*5,ag⟩)] 154))(M:o≠sr)(O:p≠sr):
  aQ ax 110 #[.int .i64 (a:Nat),.int .i64 (b:Nat),.pointer (af ⟨o,0,ag⟩),.pointer (af ⟨p,0,ag⟩)] X λe Y=>e=.returned (.int .i64 c)/\∃f,CT N v root tb sr ent w0 f Y/\KT sr E f X Y:=by
 have r:=ae d;subst hv;obtain⟨va,am,e,an,P⟩:=d.nodes;cases e;rcases P with u|⟨ao,ap,Q,G⟩
 ·exfalso;rw[u]at hi;exact bF _ hi
 cases Q;have H:=G i N[i] (ay hi);rw[show N.getD i nd0=N[i] by rw[aV,ay hi,bC]]at ha q hc;generalize N[i]=n at H ha q hc;obtain⟨aq,ar,I,R,S,J,T,U,V⟩:=H;have av:nb<w0.heap.size:=World.block_lt_of_cell? w0 _ I;have aw:nb≠sr:=by have:=d.lo;omega
 obtain⟨aD,W,rfl,aa,ab⟩:=U;rcases ab with u|⟨s,lo,rfl,K⟩
 ·exfalso;rw[u]at ha;exact bF _ ha
 have A:∀j,j<n.keys.length->w0.cell? ⟨s,lo+j,ag⟩=af (.int .i64 (n.keys.getD j 0)):=λj ac=>K j _ (by rw[aV,ay ac,bC])
 have B:=A a ha;have C:=A b q;obtain⟨x,hx⟩:=iC (n.keys.getD a 0);obtain⟨y,hy⟩:=iC (n.keys.getD b 0);rw[hx]at B hc;rw[hy]at C hc;have aE:(a:Int)<(n.keys.length:Int):=iE
 have aG:(b:Int)<(n.keys.length:Int):=iE
 have ad:=ae hc
 have g:PLift (∀Z,iY N (.slice (af ⟨nb,no,ag⟩) N.length vc) root tb sr ent w0 X Z->(∃f,CT N (.slice (af ⟨nb,no,ag⟩) N.length vc) root tb sr ent w0 f Z)/\Z.cell? ⟨o,0,ag⟩=af (.pointer (af ⟨tb,0,ag⟩))/\Z.cell? ⟨p,0,ag⟩=af (.pointer (af ⟨nb,no+i*5,ag⟩))/\
   Z.cell? ⟨nb,no+i*5+3,ag⟩=af (.slice (af ⟨s,lo,ag⟩) n.keys.length W)/\Z.cell? ⟨s,lo+a,ag⟩=af (.int .i64 x)/\Z.cell? ⟨s,lo+b,ag⟩=af (.int .i64 y)):=⟨λZ l=>by
  obtain⟨f,t,aL⟩:=l E r.1;exact⟨⟨f,t⟩,(aj (l.block r.1 M D) 0).trans rfl,(aj (l.block r.1 O F) 0).trans rfl,iU t.below J,iU t.below B,iU t.below C⟩⟩
 clear d G I R S J T K aa V A B C ha q hx hy D F hc hi
 as_aux_lemma=>
 go_enter Tryz.func110,Tryz.ntmps110
 go_upto_region 1 with fail
 refine Mix.qQ (aF:=?_) (iY N (.slice (af ⟨nb,no,ag⟩) N.length vc) root tb sr ent w0) iY.refl (λ_ _ _ h k=>h.trans k) (iY.drew X) iF iF iF iF iF ?_ ?_;rotate_left 1
 ·intro ρ m
  haveI:Nonempty (Mix.iZ (iY N (.slice (af ⟨nb,no,ag⟩) N.length vc) root tb sr ent w0) ρ):=⟨⟨ρ,iY.refl ρ⟩⟩;have aM:=λz:Mix.iZ (iY N (.slice (af ⟨nb,no,ag⟩) N.length vc) root tb sr ent w0) ρ=>(g.1 z.w (m.trans z.h)).2.1
  have aR:=λz:Mix.iZ (iY N (.slice (af ⟨nb,no,ag⟩) N.length vc) root tb sr ent w0) ρ=>(g.1 z.w (m.trans z.h)).2.2.1
  have a0:=λz:Mix.iZ (iY N (.slice (af ⟨nb,no,ag⟩) N.length vc) root tb sr ent w0) ρ=>(g.1 z.w (m.trans z.h)).2.2.2.1
  have f7:=λz:Mix.iZ (iY N (.slice (af ⟨nb,no,ag⟩) N.length vc) root tb sr ent w0) ρ=>(g.1 z.w (m.trans z.h)).2.2.2.2.1
  have f8:=λz:Mix.iZ (iY N (.slice (af ⟨nb,no,ag⟩) N.length vc) root tb sr ent w0) ρ=>(g.1 z.w (m.trans z.h)).2.2.2.2.2
  have ai:=ae (λz:Mix.iZ (iY N (.slice (af ⟨nb,no,ag⟩) N.length vc) root tb sr ent w0) ρ=>show aQ ax 111 #[.pointer (af ⟨tb,0,ag⟩),.int .i64 x,.pointer (af ⟨tb,0,ag⟩),.int .i64 y,.map ag] z.w (λe W'=>e=.returned (.int .i64 c)/\iY N (.slice (af ⟨nb,no,ag⟩) N.length vc) root tb sr ent w0 z.w W')from by
   obtain⟨ak,L⟩:=(g.1 z.w (m.trans z.h)).1
   exact(ad.1 z.w ak L).mono λe W' h=>⟨h.1,λE d=>by obtain rfl:=d.uniq L;exact h.2⟩)
  repeat(go_big_quiet_step((go_at_call 111;exact Mix.iZ.calls (λ_ _ _ h k=>h.trans k) (ai.1 _))))
  apply dF;exact rfl
 intro Z l;have al:=ae (l E r.1);clear l;go_wp2;go_ret;exact⟨rfl,al.1⟩
end
end Go.Proofs.YthcalnnipjflkaaGreatDoor
namespace Go.Proofs.YthcalnnipjflkaaGreatDoor
open Go.RowKit
open Go.Lib hiding intOf
theorem Fj (n:Nd)(C:List Int):(rq C n).length=C.length:=by unfold rq;rw[A8,A8]
theorem Kt (N:List Nd)(root:Int):(cntF N root).length=N.length:=by
 unfold cntF
 have h:∀(l:List Nd) (C:List Int),(l.foldl rq C).length=C.length:=by
  intro l
  induction l with
  |nil=>intro C;rfl
  |cons n l a=>intro C;rw[bT,a,Fj]
 rw[h,D7,cu]
theorem Fp (N:List Nd)(n:Nd)(M:List Bool):(rM N M n).length=M.length:=by
 unfold rM
 have h:∀(l:List Int) (M:List Bool),(l.foldl (λM x=>jR N (N.length+1) x.toNat M) M).length=M.length:=by
  intro l
  induction l with
  |nil=>intro M;rfl
  |cons x l a=>intro M;rw[bT,a,(vK N _ _ _).1]
 exact h _ _
theorem Ku (N:List Nd):(tu N).length=N.length:=by
 unfold tu
 have h:∀(l:List Nd) (M:List Bool),(l.foldl (rM N) M).length=M.length:=by
  intro l
  induction l with
  |nil=>intro M;rfl
  |cons n l a=>intro M;rw[bT,a,Fp]
 rw[h,cu]
theorem Ll {N:List Nd}{root:Int}(h:vI N root=aC):0<=root/\root<(N.length:Int)/\nN N:=by unfold vI jH at h;simp only[aK,decide_eq_true_eq,List.all_eq_true]at h;exact⟨h.1.1,h.1.2,λn hn=>⟨λx hx=>(h.2 n hn).1 x hx,λx hx=>(h.2 n hn).2 x hx⟩⟩
noncomputable def rV (N:List Nd)(root:Nat)(i:Nat):Bool:=!((jR N (N.length+1) root (bH N.length ah)).getD i ah)||!(uK qJ (N.getD i nd0))
def tJ (N:List Nd)(root:Nat)(i:Nat):Bool:=(tu N).getD i ah&&!((cntF N root).getD i 0==1)
def qA (N:List Nd)(root:Nat):List Int×List Int:=(uM N root).getD ([],[])
noncomputable def o9 (N:List Nd)(root:Int):Int:=
 if 4096<N.length then 7
 else if N.length=0 then 3
 else if vI N root=ah then 3
 else if(aW N.length).any (rV N root.toNat)=aC then 3
 else if(aW N.length).any (tJ N root.toNat)=aC then 3
 else if Ai N (N.length+1)=aC then 8
 else if 32<(uS N root.toNat (qA N root.toNat).1 (qA N root.toNat).2).1 then 5 else 0
def Ar (N:List Nd)(root:Nat):Prop:=nN N->(∀i,i<N.length->rV N root i=ah)->(∀i,i<N.length->tJ N root i=ah)->
 ∃(K:Nat->Prop) (H:Nat->Nat),uT N K H/\(∀n∈N,∀x∈n.keys,K x.toNat)/\(∀i,K i->H i<N.length+1)/\∀n∈N,n.keys.length<=4096
theorem X0 {N:List Nd}(h:∀i,i<N.length->uK qJ (N.getD i nd0)=aC):yV N:=by intro n hn b;obtain⟨i,hi,rfl⟩:=List.getElem_of_mem hn;have a:=h i hi;rw[aV,ay hi,bC]at a;unfold uK at a;rw[gZ (by rw[b];decide),gY b]at a;simp only[aK,decide_eq_true_eq]at a;exact a.2
theorem FN {P:Nat->Bool}{n k:Nat}(a:k<n)(h:P k=aC):(aW n).any P=aC:=List.any_eq_true.2 ⟨k,bZ.2 a,h⟩
theorem Dq {P:Nat->Bool}{n:Nat}(h:(aW n).any P=ah){k:Nat}(a:k<n):P k=ah:=by
 cases hp:P k with
 |false=>rfl
 |true=>rw[FN a hp]at h;cases h
theorem Lm (w:au)(v:aA)(root:Int)(N:List Nd)(ba:jJ w v N)(hF:yS N)(bb:∀n∈N,n.text.size<=70000)(bc:jM w)(bd:Ar N root.toNat):
  aQ ax 89 #[.agg #[v,.int .i64 root]] w λe w'=>e=.returned (.int .i64 (o9 N root))/\aJ w.heap.size w w':=by
 have B:=ae (iJ hF (iJ bb (iJ bc bd)));have ci:=ae (show o9 N root=_ from rfl);obtain⟨R,hR⟩:=iC (o9 N root);rw[hR];unfold o9 at hR;have a:=ae hR;clear hR ci hF bb bc bd;have ao:jJ (w.alloc (.cells #[v,.int .i64 root] 117)) v N:=ba.below (iW w _);have Q:=ae (OC _ v N root ao);have cj:=ae ao;obtain⟨va,vc,rfl,be,ap⟩:=ba;by_cases hn:4096<N.length
 ·have aq:(4096:Int)<(N.length:Int):=iE
  have ck:decide ((N.length:Int)>4096)=aC:=iq aq;have d:=ae (a.1.symm.trans (gY hn));have g:=(aj (bI w (.cells #[.slice va N.length vc,.int .i64 root] 117)) 0).trans rfl;clear ap be
  as_aux_lemma=>
  go_enter bY,bK;go_wp2;refine aU (v:=.int .i64 7) (by simp only[results,aO];go_simp) rfl ?_;exact⟨by rw[d.1],iW w _⟩
 have a:=ae ((gZ hn).symm.trans a.1);have aq:¬(4096:Int)<(N.length:Int):=iE
 have ck:decide ((N.length:Int)>4096)=ah:=iw aq;by_cases ar:N.length=0
 ·have cl:((N.length:Int)==0)=aC:=by rw[ar];rfl
  have d:=ae (a.1.symm.trans (gY ar));have g:=(aj (bI w (.cells #[.slice va N.length vc,.int .i64 root] 117)) 0).trans rfl;clear ap be
  as_aux_lemma=>
  go_enter bY,bK;go_wp2;refine aU (v:=.int .i64 3) (by simp only[results,aO];go_simp) rfl ?_;exact⟨by rw[d.1],iW w _⟩
 have a:=ae ((gZ ar).symm.trans a.1);have cl:((N.length:Int)==0)=ah:=by rw[iy];omega
 have bf:0<N.length:=iE
 rcases ap with cm|⟨b,o,rfl,av⟩
 ·exfalso;rw[cm]at bf;exact bF _ bf
 have cn:=ae av;have aw:PLift ((w.alloc (.cells #[.slice (af ⟨b,o,ag⟩) N.length vc,.int .i64 root] 117)).heap[w.heap.size]?=af (.cells #[.slice (af ⟨b,o,ag⟩) N.length vc,.int .i64 root] 117)):=⟨bI w _⟩;have bg:PLift (aJ w.heap.size w (w.alloc (.cells #[.slice (af ⟨b,o,ag⟩) N.length vc,.int .i64 root] 117))):=⟨iW w _⟩;have S:PLift ((w.alloc (.cells #[.slice (af ⟨b,o,ag⟩) N.length vc,.int .i64 root] 117)).heap.size=w.heap.size+1):=⟨jl _ _⟩;cases y:vI N root with
 |false=>
  rw[y]at Q;have d:=ae (a.1.symm.trans (gY y));have g:=(aj aw.1 0).trans rfl;have m:=(aj aw.1 1).trans rfl;clear av
  as_aux_lemma=>
  go_enter bY,bK
  go_wp2_with(go_at_call 101;refine(Q.1).mono ?_;rintro e c ⟨rfl,p⟩;have r:=ae p;clear p)
  refine aU (v:=.int .i64 3) (by simp only[results,aO];go_simp) rfl ?_;exact⟨by rw[d.1],bg.1.trans (r.1.mono (by have:=S.1;omega))⟩
 |true=>
 have a:=ae ((gZ (by rw[y];decide)).symm.trans a.1);rw[y]at Q;obtain⟨bh,co,bi⟩:=Ll y;obtain⟨rt,rfl⟩:=Int.eq_ofNat_of_zero_le bh;have bj:rt<N.length:=iE
 rw[Int.toNat_natCast]at a B;have q:=ae (iJ bi bj)
 have cp:∀f:au,(Instr.makeSlice 168 (.int .i64 (N.length:Int)) (.int .i64 (N.length:Int))).run ax f=.ok (.slice (af ⟨f.heap.size,0,ag⟩) N.length N.length) (f.alloc (.cells (aP N.length (.bool ah)) 4)):=λf=>by rw[run_make_row' 168 4 (.bool ah) 1 Tryz.underlying168 D8 rfl .i64 .i64 N.length iE iE f,sD]
 clear ao av y bi bh co bj
 as_aux_lemma=>
 go_enter bY,bK
 as_aux_lemma=>
 go_upto_region 5 with(go_at_call 101;refine(Q.1).mono ?_;rintro e c ⟨rfl,p⟩;have r:=ae p;have aD:c.heap[w.heap.size]?=af (.cells #[.slice (af ⟨b,o,ag⟩) N.length vc,.int .i64 (rt:Nat)] 117):=by {rw[p.block _ (by have:=S.1;omega)];exact aw.1};have aE:=ae aD;have m:=iK aD 0 (.slice (af ⟨b,o,ag⟩) N.length vc);clear p aD)
 as_aux_lemma=>
 go_upto_region 6 with fail
 have bk:=ae (cj.1.below r.1);have bl:(c.alloc (.cells (aP N.length (.bool ah)) 4)).heap.size=c.heap.size+1:=jl _ _
 have bm:(c.alloc (.cells (aP N.length (.bool ah)) 4)).heap[c.heap.size]?=af (.cells ((bH N.length ah).map Value.bool).toArray 4):=by rw[bI];simp
 have s:aJ c.heap.size c (c.alloc (.cells (aP N.length (.bool ah)) 4)):=iW _ _;have T:PLift ((c.alloc (.cells (aP N.length (.bool ah)) 4)).heap[w.heap.size]?=af (.cells #[.slice (af ⟨b,o,ag⟩) N.length vc,.int .i64 (rt:Nat)] 117)):=⟨by rw[Lib.alloc_old _ _ _ (block_lt aE.1)];exact aE.1⟩;have aF:=ae (GY c (c.alloc (.cells (aP N.length (.bool ah)) 4)) (.slice (af ⟨b,o,ag⟩) N.length vc) N (rt:Nat) rt c.heap.size (bH N.length ah) bk.1 q.1.1 s (az _) iH bm q.1.2);have aG:=ae bl;have z:=ae s;clear bl bm s m cp;generalize c.alloc (.cells (aP N.length (.bool ah)) 4)=bo at T aF aG z⊢;have g:=iK T.1 0 (.slice (af ⟨b,o,ag⟩) N.length vc);have m:=iK T.1 1 (.int .i64 (rt:Nat))
 as_aux_lemma=>
 go_upto_region 7 with(go_at_call 102;refine(aF.1).mono ?_;rintro e w3 ⟨rfl,bp,bq⟩;have br:=ae bp;have bs:=ae bq;clear bp bq)
 clear g m;have cq:w.heap.size<c.heap.size:=block_lt aE.1;have aL:PLift (w3.heap[w.heap.size]?=af (.cells #[.slice (af ⟨b,o,ag⟩) N.length vc,.int .i64 (rt:Nat)] 117)):=⟨by rw[br.1.block _ (by have:=aG.1;omega) (by intro e;injection e with e;omega)];exact T.1⟩;have bt:PLift (aJ c.heap.size c w3):=⟨z.1.grown br.1 (by have:=aG.1;omega) (λk bv=>by injection bv with bv;omega)⟩;have cr:=ae (bk.1.below bt.1);have g:=iK aL.1 0 (.slice (af ⟨b,o,ag⟩) N.length vc);clear cq
 as_aux_lemma=>
 go_wp2;have U:PLift (aJ w.heap.size w w3):=⟨(bg.1.trans (r.1.mono (by have:=S.1;omega))).trans (bt.1.mono (aT (aT (by have:=S.1;omega) r.1.size) (az _)))⟩;obtain⟨A,aM⟩:=iC (jR N (N.length+1) rt (bH N.length ah));have cs:PLift (∀i,i<N.length->w3.cell? ⟨c.heap.size,i,ag⟩=af (.bool (A.getD i ah))):=⟨λi hi=>by rw[Ac bs.1 (by rw[(vK N _ _ _).1];simpa using hi),aM]⟩;have bw:PLift (∀i,rV N rt i=(!(A.getD i ah)||!(uK qJ (N.getD i nd0)))):=⟨λi=>by unfold rV;rw[aM]⟩;clear g aF bs
 go_loopw [36] (λl wr=>∃i:Nat,l=.int .i64 i/\i<=N.length/\aJ w3.heap.size w3 wr/\(aW i).any (rV N rt)=ah) (λl _=>N.length - (intOf l).toNat)
 case atStart=>exact⟨0,rfl,aZ _,aS _ _,rfl⟩
 case round=>
  as_aux_lemma=>
  obtain⟨i,rfl,hi,bx,bA⟩:=hrel;obtain⟨f,cv⟩:∃f:au,f=wr:=⟨_,rfl⟩;subst cv;have t:=ae bx;have aR:=ae bA;clear bx bA;by_cases j:i<N.length
  ·have cw:(i:Int)<(N.length:Int):=iE
   have bB:=iU t.1 (cs.1 i j);have cx:=λcy=>iU (iW f cy) bB
   have bE:=cn.1 i N[i] (ay j);have a0:=B.1.2.1 N[i] (bu j);have p:=bw.1 i;rw[show N.getD i nd0=N[i] by rw[aV,ay j,bC]]at p;have V:=ae (λh:rV N rt i=aC=>a.1.symm.trans (gY (FN j h)));have x:=ae j;generalize N[i]=n at bE a0 p;have u:=U.1.trans (t.1.mono U.1.size);obtain⟨W,l,bL,bM,bN,bO,bR,bS,bX⟩:=bE;have cP:=iU u bL;have cQ:=iU u bM;have cR:=iU u bN;have cS:=iU u bO;have cT:=iU u bR;have C:=u.trans ((iW f (.cells #[.int .i64 n.kind,.string n.text,.bool n.ord,W,l] 150)).mono u.size);have X:=ae (XZ (f.alloc (.cells #[.int .i64 n.kind,.string n.text,.bool n.ord,W,l] 150)) (.agg #[.int .i64 n.kind,.string n.text,.bool n.ord,W,l]) n ⟨W,l,rfl,bS.below C,bX.below C⟩ a0 (B.1.2.2.1.below C));have a1:=ae C;obtain⟨cU,b0,rfl,-,-⟩:=bS;obtain⟨cV,cW,rfl,-,-⟩:=bX;have r:=ae p;generalize A.getD i ah=mk at bB cx r;clear u bL bM bN bO bR C a0 p j
   as_aux_lemma=>
   cases mk with
   |false=>have d:=ae (V.1 (by rw[r.1];rfl));go_wp2;refine aU (v:=.int .i64 3) (by simp only[results,aO];go_simp) rfl ?_;exact⟨by rw[d.1],a1.1⟩
   |true=>
    cases Y:uK qJ n with
    |false=>
     rw[Y]at X;have d:=ae (V.1 (by rw[r.1,Y];rfl))
     go_wp2_with(go_at_call 103;refine(X.1).mono ?_;rintro e cz ⟨rfl,D⟩;have a2:=ae D;clear D)
     refine aU (v:=.int .i64 3) (by simp only[results,aO];go_simp) rfl ?_;exact⟨by rw[d.1],a1.1.trans (a2.1.mono a1.1.size)⟩
    |true=>
     rw[Y]at X;have E:=ae (show rV N rt i=ah by rw[r.1,Y];rfl)
     go_wp2_with(go_at_call 103;refine(X.1).mono ?_;rintro e cz ⟨rfl,D⟩;have a2:=ae D;clear D)
     go_roundw
     case rel=>exact⟨i+1,by go_num,by have:=x.1;omega,(t.1.alloc t.1.size _).trans (a2.1.mono (by rw[jl];have:=t.1.size;omega)),by rw[CU,aR.1,E.1];rfl⟩
     case measure=>have:=x.1;simp[intOf];omega
  ·obtain rfl:i=N.length:=iE
   have a3:=ae (U.1.trans (t.1.mono U.1.size));have Z:PLift (f.heap[w.heap.size]?=af (.cells #[.slice (af ⟨b,o,ag⟩) N.length vc,.int .i64 (rt:Nat)] 117)):=⟨by rw[t.1.block _ (block_lt aL.1)];exact aL.1⟩;have b1:=ae (cr.1.below t.1);have F:N.length<=4096:=iE;have cA:=ae (OO f (.slice (af ⟨b,o,ag⟩) N.length vc) N rt b1.1 q.1.1 q.1.2 F);have g:=iK Z.1 0 (.slice (af ⟨b,o,ag⟩) N.length vc);have m:=iK Z.1 1 (.int .i64 (rt:Nat));have a:=ae ((gZ (by rw[aR.1];decide)).symm.trans a.1)
   as_aux_lemma=>
   go_upto_region 14 with(go_at_call 104;refine(cA.1).mono ?_;rintro e G ⟨rfl,b2,b3⟩;have aa:=ae b2;have cB:=ae b3;clear b2 b3)
   clear g m;have ab:PLift (G.heap[w.heap.size]?=af (.cells #[.slice (af ⟨b,o,ag⟩) N.length vc,.int .i64 (rt:Nat)] 117)):=⟨by rw[aa.1.block _ (block_lt Z.1)];exact Z.1⟩;have b4:=ae (b1.1.below aa.1);have cC:=ae (U0 G (.slice (af ⟨b,o,ag⟩) N.length vc) N (rt:Nat) b4.1 q.1.1 F);have g:=iK ab.1 0 (.slice (af ⟨b,o,ag⟩) N.length vc);have m:=iK ab.1 1 (.int .i64 (rt:Nat))
   as_aux_lemma=>
   go_wp2_with(go_at_call 105;refine(cC.1).mono ?_;rintro e I ⟨rfl,b5,b6⟩;have ac:=ae b5;have cD:=ae b6;clear b5 b6)
   have ad:PLift (I.heap[w.heap.size]?=af (.cells #[.slice (af ⟨b,o,ag⟩) N.length vc,.int .i64 (rt:Nat)] 117)):=⟨by rw[ac.1.block _ (block_lt ab.1)];exact ab.1⟩;have b7:=ae (b4.1.below ac.1);have cE:PLift (∀i,i<N.length->I.cell? ⟨f.heap.size+1,i,ag⟩=af (.int .i64 ((cntF N rt).getD i 0))):=⟨λi hi=>iU ac.1 (kJ cB.1 (by rw[Kt];exact hi))⟩;have cF:PLift (∀i,i<N.length->I.cell? ⟨G.heap.size+1,i,ag⟩=af (.bool ((tu N).getD i ah))):=⟨λi hi=>Ac cD.1 (by rw[Ku];exact hi)⟩;have J:PLift (aJ w.heap.size w I):=⟨(a3.1.trans (aa.1.mono a3.1.size)).trans (ac.1.mono (aT a3.1.size aa.1.size))⟩;clear g m
   go_loopw [57] (λl wr=>∃i:Nat,l=.int .i64 i/\i<=N.length/\wr=I/\(aW i).any (tJ N rt)=ah) (λl _=>N.length - (intOf l).toNat)
   case atStart=>exact⟨0,rfl,aZ _,rfl,rfl⟩
   case round=>
    as_aux_lemma=>
    obtain⟨i,rfl,hi,cG,b8⟩:=hrel;obtain⟨b9,cH⟩:∃b9:au,b9=wr:=⟨_,rfl⟩;subst cH;subst cG;have ai:=ae b8;clear b8;by_cases j:i<N.length
    ·have cw:(i:Int)<(N.length:Int):=iE
     have b0:=cE.1 i j;have cI:=cF.1 i j;have s:tJ N rt i=((tu N).getD i ah&&!((cntF N rt).getD i 0==1)):=rfl;have V:=ae (λh:tJ N rt i=aC=>a.1.symm.trans (gY (FN j h)));have x:=ae j;generalize(tu N).getD i ah=cJ at cI s;generalize(cntF N rt).getD i 0=ct at b0 s;have z:=ae s;clear j s;cases cJ with
     |false=>
      have E:=ae (show tJ N rt i=ah by rw[z.1];rfl)
      as_aux_lemma=>
      go_wp2;go_roundw
      case rel=>exact⟨i+1,by go_num,by have:=x.1;omega,trivial,by rw[CU,ai.1,E.1];rfl⟩
      case measure=>have:=x.1;simp[intOf];omega
     |true=>
      by_cases a4:ct=1
      ·subst a4
       have E:=ae (show tJ N rt i=ah by rw[z.1];rfl)
       as_aux_lemma=>
       go_wp2;go_roundw
       case rel=>exact⟨i+1,by go_num,by have:=x.1;omega,trivial,by rw[CU,ai.1,E.1];rfl⟩
       case measure=>have:=x.1;simp[intOf];omega
      ·have cK:(ct==1)=ah:=by rw[iy];exact a4
       have cX:(ct !=1)=aC:=(by rw[bne_iff_ne];exact a4);have d:=ae (V.1 (by rw[z.1,cK];rfl))
       as_aux_lemma=>
       go_wp2;refine aU (v:=.int .i64 3) (by simp only[results,aO];go_simp) rfl ?_;exact⟨by rw[d.1],J.1⟩
    ·obtain rfl:i=N.length:=iE
     have a:=ae ((gZ (by rw[ai.1];decide)).symm.trans a.1);have a5:∀i,i<N.length->rV N rt i=ah:=λi hi=>Dq aR.1 hi
     have ca:∀i,i<N.length->tJ N rt i=ah:=λi hi=>Dq ai.1 hi
     have a6:∀i,i<N.length->A.getD i ah=aC/\uK qJ (N.getD i nd0)=aC:=λi hi=>by have h:=a5 i hi;rw[bw.1 i,Bool.or_eq_false_iff,dB,dB]at h;exact h
     obtain⟨K,H,cb,cc,cd,ce⟩:=B.1.2.2.2 q.1.1 a5 ca;have ak:=ae (V4 _ (.slice (af ⟨b,o,ag⟩) N.length vc) N (rt:Nat) K H (N.length+1) b7.1 q.1.1 B.1.1 (X0 λi hi=>(a6 i hi).2) cb cc cd ce);obtain⟨inn,sizes,a7,cf,cg⟩:=Lj N rt q.1.1 F q.1.2 (λi hi=>by rw[aM];exact(a6 i hi).1);have a8:=ae (iJ a7 (iJ cf cg));rw[show qA N rt=(inn,sizes) by unfold qA;rw[a7];rfl]at a;simp only at a;have g:=(aj ad.1 0).trans rfl;have m:=(aj ad.1 1).trans rfl;have cL:=ae F;clear a5 ca a6 cb cc cd ce a7 cf cg F;cases al:Ai N (N.length+1)with
     |true=>
      rw[al]at ak;have d:=ae (a.1.symm.trans (gY al))
      as_aux_lemma=>
      go_wp2_with(go_at_call 106;refine(ak.1).mono ?_;rintro e L ⟨rfl,M⟩;have O:=ae M;clear M)
      refine aU (v:=.int .i64 8) (by simp only[results,aO];go_simp) rfl ?_;exact⟨by rw[d.1],J.1.trans (O.1.mono J.1.size)⟩
     |false=>
      rw[al]at ak;have a:=ae ((gZ (by rw[al];decide)).symm.trans a.1)
      as_aux_lemma=>
      go_upto_region 22 with(go_at_call 106;refine(ak.1).mono ?_;rintro e L ⟨rfl,M⟩;have O:=ae M;clear M)
      clear g m;have ch:PLift (L.heap[w.heap.size]?=af (.cells #[.slice (af ⟨b,o,ag⟩) N.length vc,.int .i64 (rt:Nat)] 117)):=⟨by rw[O.1.block _ (block_lt ad.1)];exact ad.1⟩;have cM:=ae (b7.1.below O.1);have am:=ae (Kr L (.slice (af ⟨b,o,ag⟩) N.length vc) rt N inn sizes cM.1 q.1.1 cL.1 q.1.2 a8.1.1 a8.1.2.1 a8.1.2.2);generalize(uS N rt inn sizes).1 =dd at am a;generalize(uS N rt inn sizes).2 =cY at am;have an:=ae (J.1.trans (O.1.mono J.1.size));have g:=iK ch.1 0 (.slice (af ⟨b,o,ag⟩) N.length vc);have m:=iK ch.1 1 (.int .i64 (rt:Nat));by_cases hdd:32<dd
      ·have cN:decide (dd>32)=aC:=iq hdd
       have d:=ae (a.1.symm.trans (gY hdd))
       as_aux_lemma=>
       go_wp2_with(go_at_call 107;refine(am.1).mono ?_;rintro e cO ⟨rfl,P⟩;have a9:=ae P;clear P)
       refine aU (v:=.int .i64 5) (by simp only[results,aO];go_simp) rfl ?_;exact⟨by rw[d.1],an.1.trans (a9.1.mono an.1.size)⟩
      ·have cN:decide (dd>32)=ah:=iw hdd
       have d:=ae (a.1.symm.trans (gZ hdd))
       as_aux_lemma=>
       go_wp2_with(go_at_call 107;refine(am.1).mono ?_;rintro e cO ⟨rfl,P⟩;have a9:=ae P;clear P)
       refine aU (v:=.int .i64 0) (by simp only[results,aO];go_simp) rfl ?_;exact⟨by rw[d.1],an.1.trans (a9.1.mono an.1.size)⟩
theorem Yc {s:ByteArray}{i:Nat}(h:i<s.size):s.get! i=s[i]:=get_at s i h
theorem Yd (s:ByteArray)(i:Nat)(h:i<s.size)(l:128<=(s[i]'h).toNat):
  1<=(aH s i).2 /\(∀j,j<(aH s i).2 ->i+j<s.size/\128<=(s.get! (i+j)).toNat)/\cZ ((aH s i).1 :Nat)=aC/\128<=(aH s i).1 :=by
 have g0:s.get! (i+0)=s[i]:=get_at s i h;have hn:¬(s[i]'h).toNat<128:=iE
 have c:∀n,n<=1->∀j,j<n->i+j<s.size/\128<=(s.get! (i+j)).toNat:=λn hn j d=>by
  obtain rfl:j=0:=iE
  exact⟨h,by rw[g0];exact l⟩
 have e:∀k,(decide (i+k<s.size)&&(s.get! (i+k)).toNat/64==2)=aC->i+k<s.size/\128<=(s.get! (i+k)).toNat:=λk m=>by simp only[aK,decide_eq_true_eq,beq_iff_eq]at m;omega
 have bl:∀k,(s.get! k).toNat<256:=λk=>(s.get! k).toNat_lt
 unfold aH;simp only[g0,hn,if_false];split
 ·rename_i a
  simp only[aK,beq_iff_eq]at a;have f:=e 1 (by simpa using a.2);split
  ·rename_i b
   refine⟨by show 1<=2;omega,λj d=>?_,?_,b⟩
   ·match j,d with
    |0,_=>exact c 1 (az _) 0 iG
    |1,_=>exact f
   ·simp only[dK,validRune,decide_eq_true_eq]
    have:=bl (i+1);omega
  ·exact⟨iG,c 1 (az _),iG,iG⟩
 split
 ·rename_i a
  simp only[aK,beq_iff_eq]at a;have f:=e 1 (by simpa using a.1.2);have g:=e 2 (by simpa using a.2);split
  ·rename_i b
   simp only[aK,decide_eq_true_eq]at b;refine⟨by show 1<=3;omega,λj d=>?_,b.2,by have:=b.1;show 128<=_;omega⟩
   match j,d with
   |0,_=>exact c 1 (az _) 0 iG
   |1,_=>exact f
   |2,_=>exact g
  ·exact⟨iG,c 1 (az _),iG,iG⟩
 split
 ·rename_i a
  simp only[aK,beq_iff_eq]at a;have f:=e 1 (by simpa using a.1.1.2);have g:=e 2 (by simpa using a.1.2);have o:=e 3 (by simpa using a.2);split
  ·rename_i b
   simp only[aK,decide_eq_true_eq]at b;refine⟨by show 1<=4;omega,λj d=>?_,b.2,by have:=b.1;show 128<=_;omega⟩
   match j,d with
   |0,_=>exact c 1 (az _) 0 iG
   |1,_=>exact f
   |2,_=>exact g
   |3,_=>exact o
  ·exact⟨iG,c 1 (az _),iG,iG⟩
 ·exact⟨iG,c 1 (az _),iG,iG⟩
theorem Ye (r:Int)(hv:cZ r=aC)(w:au):aQ ax 130 #[.int .i32 r] w λe w'=>e=.returned (.bool aC)/\w'=w:=by
 rw[dK]at hv;unfold validRune at hv;have hv:=of_decide_eq_true hv;by_cases h:r<55296
 ·have a:0<=r:=iE
  go_enter dL,dG;go_wp2;go_ret;exact⟨rfl,rfl⟩
 ·have a:0<=r:=iE
  have b:57343<r:=iE
  have c:r<=1114111:=iE
  go_enter dL,dG;go_wp2;go_ret;exact⟨rfl,rfl⟩
theorem Yf (a:ByteArray)(ha:∀b∈a.data.toList,b.toNat<128)(w:au):aQ ax 113 #[.string a,.int .i32 65533] w λe w'=>e=.returned (.int .i64 (-1))/\aJ w.heap.size w w':=by
 have d:=ae ha;clear ha;go_enter dC,dw;go_wp2
 go_loopg [5,6] a.size (λg _ _ f=>∃i:Nat,i+g=a.size/\f=w.iter a i)
 case atStart=>exact⟨0,iE,rfl⟩
 case round=>
  obtain⟨i,j,rfl⟩:=hrel;cases gk with
  |zero=>
   obtain rfl:i=a.size:=iE
   have c:=run_next_end (P:=ax) w a a.size;go_wp2;go_ret;exact⟨rfl,(aS _ _).alloc (az _) _⟩
  |succ g=>
   have hi:i<a.size:=iE;obtain⟨x,hx⟩:∃x:UInt8,a[i]'hi=x:=⟨_,rfl⟩
   have h:x.toNat<128:=d.1 x (by rw[<-hx];exact bP (xs:=a.data) hi);have c:=λty=>run_next_ascii (P:=ax) w a i ty hi (by rw[hx];exact h)
   rw[hx]at c;have k:((x.toNat:Int)==65533)=ah:=(by rw[iy];omega);clear hx;go_wp2
   go_roundg g
   case measure=>omega
   case rel=>exact⟨i+1,iE,rfl⟩
theorem Yg (a:ByteArray)(ha:∀b∈a.data.toList,b.toNat<128)(hs:a.size<=100)(r:Int)(hv:cZ r=aC)(g:128<=r)(l:r≠65533)(w:au):
  aQ ax 113 #[.string a,.int .i32 r] w λe w'=>e=.returned (.int .i64 (-1))/\aJ w.heap.size w w':=by
 obtain⟨e1,f,e3⟩:=encode_facts r hv g;have n:=ae hv;have D:0<=r:=iE
 have E:¬r<128:=iE
 have F:(r==65533)=ah:=by rw[iy];exact l
 have hcv:∀c,(convert 21 9 (.int .i32 r)).run ax c=.ok (.string (dP r)) c:=λc=>run_convert_int_string c _ _ _ _ rfl rfl
 have o:=ae λc=>Ye r n.1 c
 generalize dP r=rs at e1 f e3 hcv;have i:rs.size - 1<rs.size:=iE
 have e3:=e3 i;have p:(rs.size:Int) - 1=((rs.size - 1:Nat):Int):=iE
 have q:rs.size<=4:=f;obtain⟨m,hm⟩:=iC (rs.size - 1);have s:rs.size=m+1:=iE
 have G:(rs.size:Int) - 1=(m:Nat):=iE
 have H:(m:Int)<(rs.size:Int):=iE
 have t:m<rs.size:=iE
 obtain⟨y,hy⟩:∃y:UInt8,rs[m]'t=y:=⟨_,rfl⟩
 have u:128<=y.toNat:=by subst hm;rw[<-hy];exact e3
 have j:=ae ha;have I:m<=3:=iE
 clear e3 e1 f p i ha hv g q s hm
 as_aux_lemma=>
 go_enter dC,dw
 go_wp2_with(go_at_call 130;refine(o.1 _).mono ?_;rintro e v ⟨rfl,rfl⟩)
 go_step3
 go_wp2
 go_loopw [9,10] (λz A wr=>z=.int .i64 (m:Nat)/\A=.int .i64 0/\wr=v) (λ_ _ _=>0)
 case atStart=>exact⟨rfl,rfl,rfl⟩
 case round=>
  obtain⟨rfl,rfl,rfl⟩:=hrel;by_cases hc:m<a.size
  ·have B:(m:Int)<(a.size:Int):=iE
   obtain⟨x,hx⟩:∃x:UInt8,a[m]'hc=x:=⟨_,rfl⟩
   have J:x.toNat<128:=j.1 x (by rw[<-hx];exact bP (xs:=a.data) hc);have K:((x.toNat:Int)==(y.toNat:Int))=ah:=(by rw[iy];omega);have L:((x.toNat:Int)!=(y.toNat:Int))=aC:=(by rw[bne_iff_ne];omega);have M:(m:Int)+1<=(a.size:Int):=iE;have N:m+1<=a.size:=iE
   as_aux_lemma=>
   go_wp2
   go_step3
   go_wp2
   go_quiet (fail)
   go_wp2
   repeat(apply wp_seq)
   have k:=ae (λW:au=>Tryz.strings_IndexByte (a.extract (m+1) a.size) (y.toNat:Nat) W)
   have C:indexByte (a.extract (m+1) a.size).data.toList ((y.toNat:Int)).toNat.toUInt8= -1:=by rw[<-firstIdx_eq];refine firstIdx_ascii a _ _ _ j.1 ?_;simpa using u
   rw[C]at k;refine Mix.mM (aF:=?_) iF iF iF iF iF ?_ ?_;rotate_left 1
   ·intro ρ O
    repeat(go_big_quiet_step((go_at_call 47;exact iR.Grow.calls ((k.1 _).mono λe w' h=>⟨h.1,h.2 ▸aS _ _⟩))))
    refine dF ?_;exact rfl
   intro W d;go_wp2;simp only[Exit.noGoto_ret];go_wp2;simp only[Exit.noGoto_ret];go_wp2;go_ret;exact⟨rfl,d.os,d.tape,d.output,d.size,d.block⟩
  ·have B:¬(m:Int)<(a.size:Int):=iE
   go_wp2;go_ret;exact⟨rfl,aS _ _⟩
theorem Yh (s:ByteArray)(r:Int)(w:au)(a:0<=r)(b:r<128):
  aQ ax 113 #[.string s,.int .i32 r] w λe w'=>e=.returned (.int .i64 (dA s.data.toList r.toNat.toUInt8))/\w'=w:=by
 go_enter dC,dw
 go_wp2_with(go_at_call 47;refine(Tryz.strings_IndexByte s r w).mono ?_;rintro e c ⟨rfl,rfl⟩)
 go_ret;exact⟨rfl,rfl⟩
theorem Yi (a:ByteArray)(ha:∀b∈a.data.toList,b.toNat<128)(hs:a.size<=100)(r:Int)(hv:cZ r=aC)(c:128<=r)(w:au):
  aQ ax 113 #[.string a,.int .i32 r] w λe w'=>e=.returned (.int .i64 (-1))/\aJ w.heap.size w w':=by
 by_cases h:r=65533
 ·subst h;exact Yf a ha w
 ·exact Yg a ha hs r hv c h w
theorem Yj (s a:ByteArray)(w:au)(Y:2<=a.size)(hs:a.size<=100)(Z:s.size<=8)(ha:∀b∈a.data.toList,b.toNat<128):
  aQ ax 98 #[.string s,.string a] w λe w'=>e=.returned (.int .i64 (aX s.data.toList a.data.toList))/\aJ w.heap.size w w':=by
 have z:=ae ha;clear ha
 have aa:a.toList.isEmpty=ah:=by
  rw[Lib.toList_data];cases h:a.data.toList with
  |nil=>have:=dQ a;rw[h,List.length_nil]at this;omega
  |cons _ _=>rfl
 have ab:((a.size:Int)==1)=ah:=iy.2 iE;have K:decide ((8:Int)<(s.size:Int))=ah:=iw iE
 have L:=ae λW:au=>(show aQ ax 114 #[.int .i64 (s.size:Nat)] W (λe w'=>e=.returned (.bool ah)/\w'=W)from by
  have ac:¬(8:Int)<(s.size:Int):=iE
  go_enter Tryz.func114,Tryz.ntmps114;go_wp2;go_ret;exact⟨by rw[<-K];rfl,rfl⟩)
 as_aux_lemma=>
 go_enter Tryz.func98,Tryz.ntmps98
 go_wp2_with(go_at_call 114;refine(L.1 _).mono ?_;rintro e c ⟨rfl,rfl⟩)
 go_loopg [9,10] s.size (λg _ _ A=>∃i:Nat,i+g=s.size/\A.heap[c.heap.size]?=af (.stringIter s i)/\aJ c.heap.size c A/\dV s.data.toList a.data.toList i)
 case atStart=>exact⟨0,iE,World.iter_heap _ _ _,(aS _ _).alloc (az _) _,Lib.NoAny.zero _ _⟩
 case round=>
  obtain⟨i,ad,hit,f,B⟩:=hrel;obtain⟨d,M⟩:∃d:au,d=wr:=⟨_,rfl⟩;subst M;have l:=ae (iJ B (iJ f hit));clear B f;cases gk with
  |zero=>
   obtain rfl:i=s.size:=iE
   have n:=λty=>run_next_end_at (P:=ax) d c.heap.size s s.size ty hit (di _)
   clear hit
   as_aux_lemma=>
   go_wp2;go_ret;exact⟨by rw[Lib.indexAny_none (by rw[<-dQ];exact l.1.1)];rfl,l.1.2.1⟩
  |succ g=>
   have hi:i<s.size:=iE;obtain⟨x,hx⟩:∃x:UInt8,s[i]'hi=x:=⟨_,rfl⟩
   have v:s.data.toList[i]?=af x:=(by rw[<-hx];exact dE s i hi);have C:=ae v;have N:=ae (show c.heap.size<d.heap.size from block_lt hit);by_cases O:x.toNat<128
   ·have n:=λty=>run_next_ascii_at (P:=ax) d c.heap.size s i ty hit hi (by rw[hx];exact O)
    rw[hx]at n;have o:=ae (dM (k:=c.heap.size) l.1.2.1 (az _) s (i+1));have m:=ae (dR d c.heap.size s i (i+1) hit);clear v hx hit;have p:=Lib.contains_iff_indexByte a.data.toList x;have Q:((x.toNat:Int)).toNat.toUInt8=x:=iH;have q:=ae λW:au=>Yh a (x.toNat:Nat) W iE iE
    rw[Q]at q;generalize d.iterAt c.heap.size s (i+1)=R at n o m;cases r:a.data.toList.contains x
    ·rw[r]at p
     have ai:¬((0:Int)<=dA a.data.toList x):=of_decide_eq_false p.symm;clear p
     as_aux_lemma=>
     go_wp2_with(go_at_call 113;refine(q.1 _).mono ?_;rintro e D ⟨rfl,rfl⟩)
     go_roundg g
     case measure=>omega
     case rel=>exact⟨i+1,iE,m.1,o.1,l.1.1.succ C.1 r⟩
    ·rw[r]at p
     have ak:(0:Int)<=dA a.data.toList x:=of_decide_eq_true p.symm;clear p
     as_aux_lemma=>
     go_wp2_with(go_at_call 113;refine(q.1 _).mono ?_;rintro e D ⟨rfl,rfl⟩)
     go_ret;exact⟨by rw[Lib.indexAny_hit l.1.1 C.1 r];rfl,o.1⟩
   ·have E:128<=(s[i]'hi).toNat:=by rw[hx];omega
    obtain⟨S,y,F,T⟩:=Yd s i hi E;have n:=λty=>run_next_any_at (P:=ax) d c.heap.size s i ty hit hi
    have o:=ae (dM (k:=c.heap.size) l.1.2.1 (az _) s (i+(aH s i).2));have m:=ae (dR d c.heap.size s i (i+(aH s i).2) hit)
    have t:PLift (i+(aH s i).2 <=s.size/\dV s.data.toList a.data.toList (i+(aH s i).2)):=⟨by
     refine⟨by have:=(y ((aH s i).2 - 1) iE).1;omega,λj b al f=>?_⟩;by_cases U:j<i
     ·exact l.1.1 j b U f
     ·have u:=y (j - i) iE
      rw[show i+(j - i)=j by omega]at u;have V:s.data.toList[j]?=af s[j]:=dE s j u.1;rw[V]at f;have f:=Option.some.inj f;rw[Yc u.1,f]at u;cases X:a.data.toList.contains b with
      |false=>rfl
      |true=>
       have:=z.1 b (List.contains_iff_mem.1 X)
       omega⟩
    have q:=ae λW:au=>Yi a z.1 hs ((aH s i).1 :Nat) F iE W
    have hw:c.heap.size<=d.heap.size:=Nat.le_of_lt N.1;have G:=ae (iterAt_size d c.heap.size s (i+(aH s i).2));clear v hx hit y F E;generalize d.iterAt c.heap.size s (i+(aH s i).2)=R at n o m G;generalize(aH s i).1 =am at n q T;generalize(aH s i).2 =H at m t S
    as_aux_lemma=>
    go_wp2_with(go_at_call 113;refine(q.1 _).mono ?_;rintro e D ⟨rfl,I⟩;have J:=ae I;clear I)
    go_roundg (s.size - (i+H))
    case measure=>have:=t.1.1;omega
    case rel=>exact⟨i+H,by have:=t.1.1;omega,by rw[J.1.block _ (block_lt m.1)];exact m.1,o.1.trans (J.1.mono (by have:=G.1;omega)),t.1.2⟩
theorem Lp (s a:ByteArray)(w:au)(c:2<=a.size)(hc:a.size<=100)(hs:s.size<=1073741824)(ha:∀b∈a.data.toList,b.toNat<128):
  aQ ax 98 #[.string s,.string a] w λe w'=>e=.returned (.int .i64 (aX s.data.toList a.data.toList))/\aJ w.heap.size w w':=by
 have d:(Tryz.prog.info? (Tryz.lays153_ren.t 116)).map (λi=>(i.zero,i.size))=af (af (.agg (aP 256 (.bool ah))),256):=iF
 by_cases f:s.size<=8
 ·exact Yj s a w c hc f ha
 ·refine(Any.strings_IndexAny_long Tryz.lays153 (dN d).1 (dN d).2 s a w c iE iE iE (λj b g=>ha b (bD g))).mono λe w' ⟨h,c⟩=>⟨h,?_⟩
  rw[c];exact((aS _ _).alloc (az _) _).alloc iH _
theorem Yk (s a:ByteArray)(w:au)(c:2<=a.size)(hc:a.size<=100)(hs:s.size<=1073741824)(ha:∀b∈a.data.toList,b.toNat<128):
  aQ ax 99 #[.string s,.string a] w λe w'=>e=.returned (.bool (decide (0<=aX s.data.toList a.data.toList)))/\aJ w.heap.size w w':=by
 have d:=ae (Lp s a w c hc hs ha);clear c hc hs ha;generalize aX s.data.toList a.data.toList=n at d;have hd:decide (n≥0)=decide (0<=n):=rfl
 as_aux_lemma=>
 go_enter Tryz.func99,Tryz.ntmps99
 go_wp2_with(go_at_call 98;refine(d.1).mono ?_;rintro e h ⟨rfl,f⟩;have g:=ae f;clear f)
 go_ret;exact⟨rfl,g.1⟩
def tK:List PanicEntry:=[{v:=.iface 132 (.agg #[]),recovered:=ah}]
structure PK (pb:Nat)(nv lL:aA)(X Y:au):Prop where
 os:Y.os=X.os
 tape:Y.tape=X.tape
 output:Y.output=X.output
 size:X.heap.size<=Y.heap.size
 block:∀k,k<X.heap.size->k≠pb->nv.ownBlock≠af k->Y.heap[k]?=X.heap[k]?
 own:∀g,lL.ownBlock=af g->nv.ownBlock=af g\/X.heap.size<=g
theorem PK.below {pb:Nat}{nv:aA}{X Y:au}(h:aJ X.heap.size X Y):PK pb nv nv X Y:=⟨h.os,h.tape,h.output,h.size,λk a _ _=>h.block k a,λ_ h=>.inl h⟩
theorem PK.trans {pb:Nat}{b c d:aA}{X Y Z:au}(h:PK pb b c X Y)(k:PK pb c d Y Z):PK pb b d X Z where
 os:=k.os.trans h.os
 tape:=k.tape.trans h.tape
 output:=k.output.trans h.output
 size:=aT h.size k.size
 block:=λq f a i=>by
  rw[k.block q (Nat.lt_of_lt_of_le f h.size) a (λe=>by
   rcases h.own q e with j|j
   ·exact i j
   ·omega)]
  exact h.block q f a i
 own:=λg l=>by
  rcases k.own g l with a|a
  ·exact h.own g a
  ·exact .inr (aT h.size a)
theorem PK.same {pb:Nat}{nv:aA}{X Y:au}(h:Same X Y):PK pb nv nv X Y:=PK.below (h.below _)
theorem jw.same {X Y:au}{pb:Nat}{s:ByteArray}{p:Nat}{nv:aA}(h:jw X pb s p nv)(k:Same X Y):jw Y pb s p nv:=by unfold jw at*;rw[k.heap];exact h
theorem jw.grow {X Y:au}{pb:Nat}{s:ByteArray}{p:Nat}{nv:aA}(h:jw X pb s p nv)(k:aJ X.heap.size X Y):jw Y pb s p nv:=by unfold jw at*;rw[k.block _ (block_lt h)];exact h
theorem jw.move {X:au}{pb:Nat}{s:ByteArray}{p:Nat}{nv:aA}(h:jw X pb s p nv)(q:Nat):jw (X.setCell ⟨pb,1,ag⟩ (.int .i64 (q:Nat))) pb s q nv:=by unfold jw at*;simp[World.setCell,Array.getElem?_modify,h]
theorem PK.move {X:au}{pb:Nat}{s:ByteArray}{p:Nat}{nv a:aA}(_:jw X pb s p nv)(v:aA)(o:Nat):PK pb a a X (X.setCell ⟨pb,o,ag⟩ v):=
 ⟨rfl,rfl,rfl,by simp[World.setCell],λk _ b _=>Below.heap_setCell _ _ _ _ (λe=>b e),λ_ h=>.inl h⟩
theorem PK.Au {pb:Nat}{nv a:aA}{W X Y:au}(h:PK pb nv a W X)(k:aJ W.heap.size X Y):PK pb nv a W Y:=
 ⟨k.os.trans h.os,k.tape.trans h.tape,k.output.trans h.output,aT h.size k.size,λq b c d=>by rw[k.block q b];exact h.block q b c d,h.own⟩
theorem jw.FP {X Y:au}{pb B:Nat}{s:ByteArray}{p:Nat}{nv:aA}(h:jw X pb s p nv)(hp:pb<B)(k:aJ B X Y):jw Y pb s p nv:=by unfold jw at*;rw[k.block _ hp];exact h
theorem jw.moved {X Z:au}{pb:Nat}{s:ByteArray}{p r:Nat}{nv:aA}{q:Int}(h:jw X pb s p nv)(a:q=((r:Nat):Int))(k:Same X Z):jw (Z.setCell ⟨pb,1,ag⟩ (.int .i64 q)) pb s r nv:=by subst a;exact(h.same k).move _
theorem PK.moved {X Z:au}{pb:Nat}{s:ByteArray}{p:Nat}{nv a v:aA}{o:Nat}(h:jw X pb s p nv)(k:Same X Z):PK pb a a X (Z.setCell ⟨pb,o,ag⟩ v):=
 (PK.same k).trans (PK.move (h.same k) _ _)
abbrev PS (pb:Nat)(X Y:au):Prop:=PK pb (.slice ag 0 0) (.slice ag 0 0) X Y
section
variable {w:au} {pb:Nat} {s:ByteArray} {pos:Nat} {nv:aA}
theorem FQ (hp:jw w pb s pos nv):aQ ax 82 #[.pointer (af ⟨pb,0,ag⟩)] w λe w'=>e=.returned (.int .u8 (lI s pos))/\Same w w':=next_any w pb s pos nv hp
theorem Aw (c:UInt8)(hp:jw w pb s pos nv)(hs:s.size<=65536)(b:pos<s.size)(hc:s[pos]=c):
  aQ ax 86 #[.pointer (af ⟨pb,0,ag⟩),.int .u8 c.toNat] w λe w'=>e=.returned (.tuple #[])/\jw w' pb s (pos+1) nv/\PS pb w w':=by
 refine(Wv w pb s pos nv c hp hs b hc).mono ?_;rintro e w' ⟨he,d,a,rfl⟩;exact⟨he,(hp.same a).move _,(PK.same a).trans (PK.move (hp.same a) _ _)⟩
theorem Dt (c:UInt8)(hp:jw w pb s pos nv)(hs:s.size<=65536)(hc:∀h:pos<s.size,s[pos]≠c):
  aQ ax 86 #[.pointer (af ⟨pb,0,ag⟩),.int .u8 c.toNat] w λe w'=>e=.panicked tK/\Same w w':=by
 have f:=iK hp 0 (.string s);have g:=iK hp 1 (.int .i64 pos);clear hp;by_cases h:pos<s.size
 ·have a:(pos:Int)<(s.size:Int):=iE
  have b:decide ((pos:Int)≥(s.size:Int))=ah:=by simpa using h
  have d:decide ((s.size:Int)<=(pos:Int))=ah:=by simpa using h
  have i:((s[pos].toNat:Int)==(c.toNat:Int))=ah:=by rw[iy];intro e;exact hc h (bQ.1 iE)
  have j:((s[pos].toNat:Int)!=(c.toNat:Int))=aC:=by rw[bne_iff_ne];intro e;exact hc h (bQ.1 iE)
  clear hc
  as_aux_lemma=>
  go_enter dU,dO;go_wp2
  go_quiet (fail)
  go_wp2;exact⟨rfl,rfl,(Same.refl w).drewN _⟩
 ·have a:¬(pos:Int)<(s.size:Int):=iE
  have b:decide ((pos:Int)≥(s.size:Int))=aC:=by simpa using h
  have d:decide ((s.size:Int)<=(pos:Int))=aC:=by simpa using h
  clear hc
  as_aux_lemma=>
  go_enter dU,dO;go_wp2
  go_quiet (fail)
  go_wp2;exact⟨rfl,rfl,(Same.refl w).drewN _⟩
end
def delims:ByteArray:=⟨#[44,93,125,62,61,40,41]⟩
theorem Yl (c:UInt8):CO c=delims.data.toList.contains c:=by unfold CO;show _=List.contains [44,93,125,62,61,40,41] c;simp only[List.contains_cons,List.contains_nil,Bool.or_false];simp only[Bool.or_assoc]
theorem FT:∀l:List UInt8,(aX l delims.data.toList= -1/\jq l=l)\/(aX l delims.data.toList=((jq l).length:Nat)/\(jq l).length<l.length)
 |[]=>.inl ⟨rfl,rfl⟩
 |c::l=>by
  unfold aX jq;rw[List.takeWhile_cons,Yl c];cases hc:delims.data.toList.contains c with
  |true=>exact .inr ⟨iH,iH⟩
  |false=>
   have d:=FT l;simp only[Bool.not_false,if_true,Bool.false_eq_true,if_false];have e:l.takeWhile (λc=>!CO c)=jq l:=rfl;rw[e];rcases d with⟨a,b⟩|⟨a,b⟩
   ·rw[a,b]
    exact .inl ⟨rfl,rfl⟩
   ·rw[a]
    refine .inr ⟨?_,by simp only[List.length_cons];omega⟩;have:((((jq l).length:Nat):Int)== -1)=ah:=(by rw[iy];omega);rw[this];simp
theorem Du (l:List UInt8):(jq l).length<=l.length:=by
 rcases FT l with⟨_,h⟩|⟨_,h⟩
 ·rw[h];exact az _
 ·omega
theorem Ym (l:List UInt8):l.take (jq l).length=jq l:=by have:jq l <+: l:=List.takeWhile_prefix _;exact List.prefix_iff_eq_take.1 this |>.symm
theorem Yn (s:ByteArray)(p:Nat):(s.extract p s.size).data.toList=s.data.toList.drop p:=by
 rw[bn,dh];show List.take (s.size - p) (List.drop p s.data.toList)=_;rw[bW];rw[bz];have:s.data.toList.length=s.size:=iH
 omega
theorem Yo (s:ByteArray)(p n:Nat)(_:p+n<=s.size):s.extract p (p+n)=⟨((s.data.toList.drop p).take n).toArray⟩:=by apply ByteArray.ext;apply Array.ext';rw[bn,dh];show List.take (p+n - p) (List.drop p s.data.toList)=_;rw[Nat.add_sub_cancel_left]
theorem Dv (s:ByteArray)(p:Nat):(s.data.toList.drop p).length=s.size - p:=iH
section
variable {w:au} {pb:Nat} {s:ByteArray} {pos:Nat} {nv:aA}
theorem AA (hp:jw w pb s pos nv)(hs:s.size<=65536)(C:pos<=s.size):
  aQ ax 85 #[.pointer (af ⟨pb,0,ag⟩)] w λe w'=>e=.returned (.string ⟨(jq (s.data.toList.drop pos)).toArray⟩)/\jw w' pb s (pos+(jq (s.data.toList.drop pos)).length) nv/\PS pb w w':=by
 obtain⟨l,a⟩:=iC (s.data.toList.drop pos);have D:l.length=s.size - pos:=by rw[<-a];exact Dv s pos
 have f:=FT l;have p:=Du l;have q:=Ym l;have hex:=Yn s pos;rw[a]at hex
 have r:(s.extract pos s.size).size<=1073741824:=by
  have:(s.extract pos s.size).data.toList.length=(s.extract pos s.size).size:=iH
  rw[hex]at this;omega
 have j:=ae λW:au=>Lp (s.extract pos s.size) delims W iG iG r iG
 rw[hex]at j;have E:(pos:Int)<=(s.size:Int):=iE
 have A:0<=(pos:Int):=iE
 rw[a];obtain⟨n,hn⟩:=iC ((jq l).length);have b:=Yo s pos n iE;rw[a,<-hn,q]at b;rw[hn]at f p b⊢;have F:(pos:Int)+(n:Int)<=(s.size:Int):=iE
 have G:(pos:Int)<=(pos:Int)+(n:Int):=iE
 have H:(pos:Int)+(n:Int)<=65536:=iE
 have t:PLift ((pos:Int)+(n:Int)=((pos+n:Nat):Int)):=⟨iE⟩;generalize jq l=W at f b hn⊢;have u:=ae (iJ hp hn);have k:=iK hp 0 (.string s);have m:=iK hp 1 (.int .i64 pos);obtain⟨v,x⟩:=iC (aX l delims.data.toList);rw[x]at j f;clear hp a hex p q r hn x A
 as_aux_lemma=>
 go_enter Tryz.func85,Tryz.ntmps85
 as_aux_lemma=>
 go_upto_region 1 with fail
 refine Mix.mM (aF:=?_) iF iF iF iF iF ?_ ?_;rotate_left 1
 ·intro ρ g
  have d0:=λz:iR.Grow ρ=>iU (g.trans (z.h.mono g.size)) k
  have I:=λz:iR.Grow ρ=>iU (g.trans (z.h.mono g.size)) m
  repeat(go_big_quiet_step((go_at_call 98;exact iR.Grow.calls (j.1 _))))
  refine dF ?_;exact rfl
 intro B c;have d:=ae (u.1.1.grow c);have y:=ae c;have k:=iU c k;have m:=iU c m;have J:∀o,B.frozen? ⟨pb,o,ag⟩=ah:=λo=>Lib.frozen_of_heap d.1 o
 clear c;rcases f with⟨rfl,i⟩|⟨rfl,i⟩
 ·have K:l.length=n:=by have:=u.1.2;rw[i]at this;exact this
  have L:(s.size:Int) - (pos:Int)=(n:Nat):=iE
  clear i
  as_aux_lemma=>
  go_wp2
  go_quiet (fail)
  go_wp2
  go_quiet (fail)
  go_wp2;go_ret;exact⟨by rw[<-b];rfl,d.1.moved t.1 ⟨rfl,rfl,rfl,rfl⟩,(PK.below y.1).trans (PK.moved d.1 ⟨rfl,rfl,rfl,rfl⟩)⟩
 ·have M:¬((n:Nat):Int)<0:=iE
  clear i
  as_aux_lemma=>
  go_wp2
  go_quiet (fail)
  go_wp2;go_ret;exact⟨by rw[<-b];rfl,d.1.moved t.1 ⟨rfl,rfl,rfl,rfl⟩,(PK.below y.1).trans (PK.moved d.1 ⟨rfl,rfl,rfl,rfl⟩)⟩
end
