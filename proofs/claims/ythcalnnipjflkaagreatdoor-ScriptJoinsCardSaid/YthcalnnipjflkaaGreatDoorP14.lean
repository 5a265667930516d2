import Derived.Test.YthcalnnipjflkaaGreatDoorP02
import Derived.Test.YthcalnnipjflkaaGreatDoorP06
open Go.Lib renaming cell_of_heap -> ae
open PLift renaming up -> af
open List renaming range -> ag, getElem?_eq_getElem -> aj, getD_eq_getElem?_getD -> aA, getElem_mem -> aB, getElem?_cons_zero -> aP, getElem?_cons_succ -> aQ, getElem?_toArray -> aU, range_succ -> aV
open Option renaming none -> ah, some -> au, getD_some -> aK
open Bool renaming false -> ax, true -> aI
open Go renaming World -> ay, Value -> aH, wpQuiet_nil -> aO, heap_alloc_new -> aW, TypeId -> aX
open Array renaming getElem?_eq_some_iff -> az, getElem?_setIfInBounds_ne -> aN
open Int renaming toNat_of_nonneg -> aC
open Go.RowKit renaming Below -> aJ
open Nat renaming not_lt_zero -> aS, zero_le -> aT
set_option linter.all false
set_option maxHeartbeats 16000000
set_option maxRecDepth 1000000
namespace Go.Proofs.YthcalnnipjflkaaGreatDoor
open Go.RowKit
open Go.Lib hiding intOf
def jy (N:List Nd):Nat->Nat->Nat->Bool
 |0,_,_=>ax
 |f+1,i,j=>
  if(N.getD i nd0).kind=(N.getD j nd0).kind/\((N.getD i nd0).text.toList==(N.getD j nd0).text.toList)=aI/\(N.getD i nd0).ord=(N.getD j nd0).ord/\(N.getD i nd0).items.length=(N.getD j nd0).items.length then
   if(N.getD i nd0).kind=10/\(N.getD i nd0).ord=ax then
    (ag (N.getD i nd0).keys.length).all λk=>(ag (N.getD j nd0).keys.length).any λl=>jy N f ((N.getD i nd0).keys.getD k 0).toNat ((N.getD j nd0).keys.getD l 0).toNat&&jy N f ((N.getD i nd0).items.getD k 0).toNat ((N.getD j nd0).items.getD l 0).toNat
   else
    (ag (N.getD i nd0).items.length).all λk=>(decide ((N.getD i nd0).kind≠10)||jy N f ((N.getD i nd0).keys.getD k 0).toNat ((N.getD j nd0).keys.getD k 0).toNat)&&jy N f ((N.getD i nd0).items.getD k 0).toNat ((N.getD j nd0).items.getD k 0).toNat
  else ax
theorem VH (N:List Nd)(f i j:Nat):jy N (f+1) i j=(
 if(N.getD i nd0).kind=(N.getD j nd0).kind/\((N.getD i nd0).text.toList==(N.getD j nd0).text.toList)=aI/\(N.getD i nd0).ord=(N.getD j nd0).ord/\(N.getD i nd0).items.length=(N.getD j nd0).items.length then
  if(N.getD i nd0).kind=10/\(N.getD i nd0).ord=ax then
   (ag (N.getD i nd0).keys.length).all λk=>(ag (N.getD j nd0).keys.length).any λl=>jy N f ((N.getD i nd0).keys.getD k 0).toNat ((N.getD j nd0).keys.getD l 0).toNat&&jy N f ((N.getD i nd0).items.getD k 0).toNat ((N.getD j nd0).items.getD l 0).toNat
  else
   (ag (N.getD i nd0).items.length).all λk=>(decide ((N.getD i nd0).kind≠10)||jy N f ((N.getD i nd0).keys.getD k 0).toNat ((N.getD j nd0).keys.getD k 0).toNat)&&jy N f ((N.getD i nd0).items.getD k 0).toNat ((N.getD j nd0).items.getD k 0).toNat
 else ax):=rfl
def yV (N:List Nd):Prop:=∀n∈N,n.kind=10->n.keys.length=n.items.length
def uT (N:List Nd)(K:Nat->Prop)(H:Nat->Nat):Prop:=∀i,K i->i<N.length/\∀x∈(N.getD i nd0).keys++(N.getD i nd0).items,K x.toNat/\H x.toNat<H i
theorem rP {W:ay}{b:Nat}{vs:Array aH}{T:aX}(h:W.heap[b]?=au (.cells vs T))(o:Nat):W.cell? ⟨b,o,ah⟩=vs[o]?:=by unfold World.cell?;simp[h]
theorem Fe {W:ay}{b:Nat}{vs:Array aH}{T:aX}(h:W.heap[b]?=au (.cells vs T))(o:Nat):W.frozen? ⟨b,o,ah⟩=ax:=by unfold World.frozen?;simp[h]
def xJ (W:ay)(b:Nat)(X:Obj):ay:={W with heap:=W.heap.setIfInBounds b X}
theorem VI {W:ay}{b:Nat}{X:Obj}(h:W.heap[b]?=au X):xJ W b X=W:=by
 have c:b<W.heap.size:=(az.1 h).1;have he:W.heap[b]=X:=(az.1 h).2;unfold xJ
 have:W.heap.setIfInBounds b X=W.heap:=by
  rw[<-he];apply Array.ext
  ·simp
  ·intro i d a
   by_cases hi:b=i
   ·subst hi;simp
   ·rw[Array.getElem_setIfInBounds_ne a hi]
 rw[this]
theorem VJ (W:ay)(b o:Nat)(c:Array aH)(T:aX)(a:Nat×Nat)(v:aH)(d:b<W.heap.size):
  (xJ W b (.cells c T a)).setCell ⟨b,o,ah⟩ v=xJ W b (.cells (c.setIfInBounds o v) T a):=by
 unfold xJ World.setCell;simp only
 have:(W.heap.setIfInBounds b (.cells c T a)).modify b (fun
   |.cells c e frozen=>.cells (if(ah:Option Nat).isSome then c else c.setIfInBounds o v) e frozen
   |o=>o)=W.heap.setIfInBounds b (.cells (c.setIfInBounds o v) T a):=by
  apply Array.ext_getElem?;intro i;rw[Array.getElem?_modify];by_cases hi:b=i
  ·subst hi
   simp[d]
  ·rw[gZ hi,aN hi,aN hi]
 exact ig (λh=>({W with heap:=h}:ay)) this
theorem JW {W:ay}{b:Nat}{T:aX}{d e f g i:aH}(h:W.heap[b]?=au (.cells #[d,e,f,g,i] T))(v0 v1 v2 a c:aH):
  ((((W.setCell ⟨b,0,ah⟩ v0).setCell ⟨b,1,ah⟩ v1).setCell ⟨b,2,ah⟩ v2).setCell ⟨b,3,ah⟩ a).setCell ⟨b,4,ah⟩ c={W with heap:=W.heap.setIfInBounds b (.cells #[v0,v1,v2,a,c] T)}:=by
 have j:b<W.heap.size:=(az.1 h).1
 have key:∀V:ay,V=xJ W b (.cells #[d,e,f,g,i] T)->
   ((((V.setCell ⟨b,0,ah⟩ v0).setCell ⟨b,1,ah⟩ v1).setCell ⟨b,2,ah⟩ v2).setCell ⟨b,3,ah⟩ a).setCell ⟨b,4,ah⟩ c=xJ W b (.cells #[v0,v1,v2,a,c] T):=by
  rintro V rfl;simp[VJ,j]
 exact key W (VI h).symm
structure SC (w:ay)(v:aH)(root:Int)(a b:Nd)(ka ia kb ib:aH)(p q:Nat)(X:ay):Prop where
 below:aJ w.heap.size w X
 box:X.heap[w.heap.size]?=au (.cells #[v,.int .i64 root] 117)
 na:X.heap[p]?=au (.cells #[.int .i64 a.kind,.string a.text,.bool a.ord,ka,ia] 150)
 nb:X.heap[q]?=au (.cells #[.int .i64 b.kind,.string b.text,.bool b.ord,kb,ib] 150)
theorem SC.mono {w:ay}{v:aH}{root:Int}{a b:Nd}{d e f g:aH}{p q:Nat}{X Y:ay}(h:SC w v root a b d e f g p q X)(c:aJ X.heap.size X Y):SC w v root a b d e f g p q Y:=
 ⟨h.below.trans (c.mono h.below.size),Mix.lu c h.box,Mix.lu c h.na,Mix.lu c h.nb⟩
def VV (N:List Nd)(v:aH)(root:Int)(K:Nat->Prop)(H:Nat->Nat)(f:Nat):Prop:=∀i j w,jJ w v N->K i->j<N.length->H i<f->
 Calls Tryz.prog 121 #[.agg #[v,.int .i64 root],.int .i64 (i:Nat),.int .i64 (j:Nat)] w λe w'=>e=.returned (.bool (jy N f i j))/\aJ w.heap.size w w'
theorem CS (P:Nat->Bool)(k:Nat):(ag (k+1)).all P=((ag k).all P&&P k):=by simp[aV]
theorem CU (P:Nat->Bool)(k:Nat):(ag (k+1)).any P=((ag k).any P||P k):=by simp[aV]
theorem CV {P:Nat->Bool}{n k:Nat}(a:k<n)(h:P k=ax):(ag n).all P=ax:=by rw[List.all_eq_false];exact⟨k,List.mem_range.2 a,by rw[h];simp⟩
theorem rZ.at {w:ay}{p:Option Addr}{n c:Nat}{l:List Int}(h:rZ w (.slice p n c) l){k:Nat}(d:k<l.length):∃b o,p=au ⟨b,o,ah⟩/\w.cell? ⟨b,o+k,ah⟩=au (.int .i64 (l.getD k 0)):=by
 obtain⟨a,i,e,_,f⟩:=h;cases e;rcases f with rfl|⟨b,o,rfl,g⟩
 ·exact absurd d (aS _)
 ·exact⟨b,o,rfl,g k _ (by rw[aA,aj d,aK])⟩
theorem getD_mem {l:List Int}{k:Nat}(a:k<l.length):l.getD k 0∈l:=by rw[aA,aj a,aK];exact aB a
theorem SC.grow {w:ay}{v:aH}{root:Int}{a b:Nd}{c d e f:aH}{p q:Nat}{X:ay}(h:SC w v root a b c d e f p q X){ρ:ay}(i:aJ X.heap.size X ρ):
  (∀x:iR.Grow ρ,SC w v root a b c d e f p q x.w)/\(∀x:iR.Grow ρ,x.w.cell? ⟨w.heap.size,0,ah⟩=au v)/\(∀x:iR.Grow ρ,x.w.cell? ⟨w.heap.size,1,ah⟩=au (.int .i64 root))/\(∀x:iR.Grow ρ,x.w.cell? ⟨p,0,ah⟩=au (.int .i64 a.kind))/\
   (∀x:iR.Grow ρ,x.w.cell? ⟨p,3,ah⟩=au c)/\(∀x:iR.Grow ρ,x.w.cell? ⟨p,4,ah⟩=au d)/\(∀x:iR.Grow ρ,x.w.cell? ⟨q,3,ah⟩=au e)/\∀x:iR.Grow ρ,x.w.cell? ⟨q,4,ah⟩=au f:=by
 have g:∀x:iR.Grow ρ,SC w v root a b c d e f p q x.w:=λx=>h.mono (i.trans (x.h.mono i.size))
 exact⟨g,λx=>ae (g x).box 0,λx=>ae (g x).box 1,λx=>ae (g x).na 0,λx=>ae (g x).na 3,λx=>ae (g x).na 4,λx=>ae (g x).nb 3,λx=>ae (g x).nb 4⟩
theorem kV {w ρ:ay}(a:aJ w.heap.size w ρ){b o:Nat}{v:aH}(h:w.cell? ⟨b,o,ah⟩=au v)(x:iR.Grow ρ):x.w.cell? ⟨b,o,ah⟩=au v:=iU (a.trans (x.h.mono a.size)) h
theorem VX (N:List Nd)(v:aH)(root:Int)(K:Nat->Prop)(H:Nat->Nat)(hR:nN N)(bs:yV N)(hK:uT N K H):∀f,VV N v root K H f:=by
 intro f
 induction f with
 |zero=>intro _ _ _ _ _ _ h;exact absurd h (aS _)
 |succ f cg=>
  intro i j w cG ad a9 hf;obtain⟨hi,ba⟩:=hK i ad;obtain⟨va,vc,rfl,ch,cH⟩:=cG;rcases cH with cI|⟨nb,no,rfl,D⟩
  ·exfalso;rw[cI]at hi;exact aS _ hi
  have ci:jJ w (.slice (au ⟨nb,no,ah⟩) N.length vc) N:=⟨_,_,rfl,ch,.inr ⟨nb,no,rfl,D⟩⟩;have bt:=af ci;clear ci;have cj:=D i N[i] (aj hi);have ck:=D j N[j] (aj a9);have b:=af (VH N f i j);have bv:N.getD i nd0=N[i]:=by rw[aA,aj hi,aK]
  have cl:N.getD j nd0=N[j]:=by rw[aA,aj a9,aK]
  rw[bv]at ba;rw[bv,cl]at b;have bw:=hR N[i] (aB hi);have bx:=hR N[j] (aB a9);have bA:=bs N[i] (aB hi);have bB:=bs N[j] (aB a9);clear bv cl;generalize N[i]=A at cj b bw bA ba;generalize N[j]=B at ck b bx bB;obtain⟨aw,aD,am,an,ao,ap,aq,cm,cn⟩:=cj;obtain⟨aE,aG,ar,b1,b2,b3,av,F,co⟩:=ck;have bb:=af (And.intro cm (And.intro cn (And.intro F co)));obtain⟨aw,bc,rfl,cJ,-⟩:=cm;obtain⟨aD,bd,rfl,cK,-⟩:=cn;obtain⟨aE,be,rfl,cL,-⟩:=F;obtain⟨aG,bf,rfl,cM,-⟩:=co;have c5:(i:Int)<(N.length:Int):=iE
  have c6:(j:Int)<(N.length:Int):=iE
  have O:=af (And.intro bw (And.intro bx (And.intro bA (And.intro bB ba))));have bE:=af (λ(bL cp:Nat) (X:ay) (c:jJ X (.slice (au ⟨nb,no,ah⟩) N.length vc) N) (E:K bL) (n:cp<N.length) (bg:H bL<H i)=>cg bL cp X c E n iE);obtain⟨W0,bM⟩:=iC (w.alloc (.cells #[.slice (au ⟨nb,no,ah⟩) N.length vc,.int .i64 root] 117));have z:PLift (aJ w.heap.size w W0/\W0.heap[w.heap.size]?=au (.cells #[.slice (au ⟨nb,no,ah⟩) N.length vc,.int .i64 root] 117)/\w.heap.size<W0.heap.size):=⟨by rw[<-bM];exact⟨iW w _,aW w _,(az.1 (aW w _)).1⟩⟩;have bh:W0.cell? ⟨w.heap.size,0,ah⟩=au (.slice (au ⟨nb,no,ah⟩) N.length vc):=(ae z.1.2.1 0).trans rfl;clear D bw bx bA bB ba cg ad hf hR bs hK ch
  as_aux_lemma=>
  go_enter Tryz.func121,Tryz.ntmps121
  as_aux_lemma=>
  go_upto_region 1 with fail
  (try rw[bM])
  replace am:=iU z.1.1 am;replace an:=iU z.1.1 an;replace ao:=iU z.1.1 ao;replace ap:=iU z.1.1 ap;replace aq:=iU z.1.1 aq;replace ar:=iU z.1.1 ar;replace b1:=iU z.1.1 b1;replace b2:=iU z.1.1 b2;replace b3:=iU z.1.1 b3;replace av:=iU z.1.1 av;clear bM;refine Mix.VG (aF:=?aF) 10 7 8 _ _ _ _ (.cells #[.int .i64 0,.string ⟨#[]⟩,.bool ax,.slice ah 0 0,.slice ah 0 0] 150) (.cells #[.int .i64 0,.string ⟨#[]⟩,.bool ax,.slice ah 0 0,.slice ah 0 0] 150) (.cells #[.int .i64 A.kind,.string A.text,.bool A.ord,.slice aw A.keys.length bc,.slice aD A.items.length bd] 150) (.cells #[.int .i64 B.kind,.string B.text,.bool B.ord,.slice aE B.keys.length be,.slice aG B.items.length bf] 150) iF rfl iF iF iF rfl rfl rfl rfl rfl rfl rfl rfl rfl rfl rfl rfl iG iF iF iF iF iF iF ?hA ?z0 ?z1 ?z2 ?z3 ?hK
  case hA=>
   intro ρ a;have g0:=kV a bh;have bi:=kV a am;have c7:=kV a an;have c8:=kV a ao;have bj:=kV a ap;have bk:=kV a aq;have c9:=kV a ar;have da:=kV a b1;have db:=kV a b2;have aL:=kV a b3;have bl:=kV a av;clear a;simp only[List.take_succ_cons,List.take_zero]
   repeat(go_big_quiet_step(fail))
   refine aO ?_;exact rfl
  case z0=>intro v W;constructor<;>go_simp
  case z1=>intro v W;constructor<;>go_simp
  case z2=>clear bh am an ao ap aq ar b1 b2 b3 av;intro b1 b2 W h;have bN:=rP h 0;have E:=rP h 1;have n:=rP h 2;have bg:=rP h 3;have bO:=rP h 4;simp only[aU,aP,aQ]at bN E n bg bO;have hf:=Fe h;have he:=af (JW h);clear h;go_simp;rw[he.1]
  case z3=>clear bh am an ao ap aq ar b1 b2 b3 av;intro b1 b2 W h;have bN:=rP h 0;have E:=rP h 1;have n:=rP h 2;have bg:=rP h 3;have bO:=rP h 4;simp only[aU,aP,aQ]at bN E n bg bO;have hf:=Fe h;have he:=af (JW h);clear h;go_simp;rw[he.1]
  case hK=>
   intro p q W bR hp cR cS cq cr;have o:PLift (SC w (.slice (au ⟨nb,no,ah⟩) N.length vc) root A B (.slice aw A.keys.length bc) (.slice aD A.items.length bd) (.slice aE B.keys.length be) (.slice aG B.items.length bf) p q W):=⟨⟨z.1.1.trans (bR.mono z.1.1.size),Mix.lu bR z.1.2.1,cq,cr⟩⟩;clear bh am an ao ap aq ar b1 b2 b3 av bR hp cR cS cq cr;have dc:=af (And.intro cJ (And.intro cK (And.intro cL cM)));have P:=af (λX (c:aJ w.heap.size w X)=>And.intro (bb.1.1.below c) (And.intro (bb.1.2.1.below c) (And.intro (bb.1.2.2.1.below c) (bb.1.2.2.2.below c))));have dd:=(ae o.1.na 0).trans rfl;have de:=(ae o.1.na 1).trans rfl;have bS:=(ae o.1.na 2).trans rfl;have df:=(ae o.1.na 3).trans rfl;have dg:=(ae o.1.na 4).trans rfl;have d0:=(ae o.1.nb 0).trans rfl;have dj:=(ae o.1.nb 1).trans rfl;have bX:=(ae o.1.nb 2).trans rfl;have dk:=(ae o.1.nb 3).trans rfl;have dl:=(ae o.1.nb 4).trans rfl
   as_aux_lemma=>
   by_cases e1:A.kind=B.kind
   case neg=>have cT:(A.kind==B.kind)=ax:=(by rw[iy];exact e1);have cU:(A.kind !=B.kind)=aI:=(by rw[bne_iff_ne];exact e1);have m:=af (show jy N (f+1) i j=ax from b.1.trans (gZ (λh=>e1 h.1)));clear b e1;go_wp2;go_ret;exact⟨by rw[m.1];rfl,o.1.below⟩
   have cT:(A.kind==B.kind)=aI:=(by rw[beq_iff_eq];exact e1);have cU:(A.kind !=B.kind)=ax:=(by rw[e1];simp);by_cases bm:(A.text.toList==B.text.toList)=aI
   case neg=>have dp:(A.text.toList==B.text.toList)=ax:=Bool.eq_false_iff.2 bm;have m:=af (show jy N (f+1) i j=ax from b.1.trans (gZ (λh=>bm h.2.1)));clear b e1 bm;go_wp2;go_ret;exact⟨by rw[m.1];rfl,o.1.below⟩
   have aM:=af (λh:A.ord≠B.ord=>show jy N (f+1) i j=ax from b.1.trans (gZ (λn=>h n.2.2.1)));cases R:A.ord
   case' true=>
    cases ai:B.ord
    case false=>have m:=af (aM.1 (by rw[R,ai];decide));rw[R]at bS;rw[ai]at bX;clear b aM e1;go_wp2;go_ret;exact⟨by rw[m.1];rfl,o.1.below⟩
   case' false=>
    cases ai:B.ord
    case true=>have m:=af (aM.1 (by rw[R,ai];decide));rw[R]at bS;rw[ai]at bX;clear b aM e1;go_wp2;go_ret;exact⟨by rw[m.1];rfl,o.1.below⟩
   all_goals
    rw[R]at bS;rw[ai]at bX;clear aM;by_cases aR:A.items.length=B.items.length
    case neg=>have cV:((A.items.length:Int)==(B.items.length:Int))=ax:=(by rw[iy];omega);have dq:((A.items.length:Int)!=(B.items.length:Int))=aI:=(by rw[bne_iff_ne];omega);have m:=af (show jy N (f+1) i j=ax from b.1.trans (gZ (λh=>aR h.2.2.2)));clear b e1 aR;go_wp2;go_ret;exact⟨by rw[m.1];rfl,o.1.below⟩
    have cV:((A.items.length:Int)==(B.items.length:Int))=aI:=(by rw[beq_iff_eq];omega);have b:=af (b.1.trans (gY ⟨e1,bm,by rw[R,ai],aR⟩));have bo:=af (And.intro e1 aR);obtain⟨u,cs⟩:∃u:Nat->Nat->Bool,(λk l=>jy N f (A.keys.getD k 0).toNat (B.keys.getD l 0).toNat)=u:=⟨_,rfl⟩;obtain⟨t,ct⟩:∃t:Nat->Nat->Bool,(λk l=>jy N f (A.items.getD k 0).toNat (B.items.getD l 0).toNat)=t:=⟨_,rfl⟩;have g1:∀k l,jy N f (A.keys.getD k 0).toNat (B.keys.getD l 0).toNat=u k l:=λk l=>by rw[<-cs]
    have g2:∀k l,jy N f (A.items.getD k 0).toNat (B.items.getD l 0).toNat=t k l:=λk l=>by rw[<-ct]
    have cv:=af (λ(k l:Nat) (X:ay) (c:SC w (.slice (au ⟨nb,no,ah⟩) N.length vc) root A B (.slice aw A.keys.length bc) (.slice aD A.items.length bd) (.slice aE B.keys.length be) (.slice aG B.items.length bf) p q X) (S:k<A.keys.length) (T:l<B.keys.length)=>show Calls Tryz.prog 121 #[.agg #[.slice (au ⟨nb,no,ah⟩) N.length vc,.int .i64 root],.int .i64 (A.keys.getD k 0),.int .i64 (B.keys.getD l 0)] X (λe w'=>e=.returned (.bool (u k l))/\aJ X.heap.size X w')from by have r:=O.1.1.1 _ (getD_mem S);have b0:=O.1.2.1.1 _ (getD_mem T);have a0:=O.1.2.2.2.2 _ (List.mem_append_left _ (getD_mem S));have h:=bE.1 (A.keys.getD k 0).toNat (B.keys.getD l 0).toNat X (bt.1.below c.below) a0.1 iE a0.2;rw[g1,aC r.1,aC b0.1]at h;exact h)
    have b4:=af (λ(k l:Nat) (X:ay) (c:SC w (.slice (au ⟨nb,no,ah⟩) N.length vc) root A B (.slice aw A.keys.length bc) (.slice aD A.items.length bd) (.slice aE B.keys.length be) (.slice aG B.items.length bf) p q X) (S:k<A.items.length) (T:l<B.items.length)=>show Calls Tryz.prog 121 #[.agg #[.slice (au ⟨nb,no,ah⟩) N.length vc,.int .i64 root],.int .i64 (A.items.getD k 0),.int .i64 (B.items.getD l 0)] X (λe w'=>e=.returned (.bool (t k l))/\aJ X.heap.size X w')from by have r:=O.1.1.2 _ (getD_mem S);have b0:=O.1.2.1.2 _ (getD_mem T);have a0:=O.1.2.2.2.2 _ (List.mem_append_right _ (getD_mem S));have h:=bE.1 (A.items.getD k 0).toNat (B.items.getD l 0).toNat X (bt.1.below c.below) a0.1 iE a0.2;rw[g2,aC r.1,aC b0.1]at h;exact h)
    have cw:=af (show(λk=>(ag B.keys.length).any λl=>jy N f (A.keys.getD k 0).toNat (B.keys.getD l 0).toNat&&jy N f (A.items.getD k 0).toNat (B.items.getD l 0).toNat)=(λk=>(ag B.keys.length).any λl=>u k l&&t k l)from by funext k;simp only[g1,g2]);have cx:=af (show(λk=>(decide (A.kind≠10)||jy N f (A.keys.getD k 0).toNat (B.keys.getD k 0).toNat)&&jy N f (A.items.getD k 0).toNat (B.items.getD k 0).toNat)=(λk=>(decide (A.kind≠10)||u k k)&&t k k)from by funext k;simp only[g1,g2]);rw[cw.1,cx.1]at b;clear g1 g2 cs ct cw cx bE bt e1 aR;by_cases r:A.kind=10
   ·have b:=af (b.1.trans (gY ⟨r,R⟩))
    have cy:(A.kind==10)=aI:=(by rw[r];rfl);have a1:=af (And.intro (O.1.2.2.1 r) (O.1.2.2.2.1 (by rw[<-bo.1.1];exact r)));clear r
    as_aux_lemma=>
    go_wp2
    go_loopw [64] (λG wr=>∃k:Nat,G=.int .i64 k/\k<=A.keys.length/\aJ W.heap.size W wr/\(ag k).all (λk=>(ag B.keys.length).any λl=>u k l&&t k l)=aI) (λG _=>A.keys.length - (intOf G).toNat)
    case atStart=>exact⟨0,rfl,aT _,Below.refl _ _,rfl⟩
    case round=>
     as_aux_lemma=>
     obtain⟨k,rfl,S,I,D⟩:=hrel;have g:=af (o.1.mono I);have C:=af (And.intro I D);clear I D;by_cases s:k<A.keys.length
     ·have cz:(k:Int)<(A.keys.length:Int):=iE
      have ad:k<A.items.length:=(by rw[<-a1.1.1];exact s);have dr:(k:Int)<(A.items.length:Int):=iE;obtain⟨cW,lo,rfl,ak⟩:=(P.1 wr g.1.below).1.at s;obtain⟨cA,cB,rfl,J⟩:=(P.1 wr g.1.below).2.1.at ad;have cC:=af (λ(l:Nat) X c (T:l<B.keys.length)=>cv.1 k l X c s T);have cD:=af (λ(l:Nat) X c (T:l<B.items.length)=>b4.1 k l X c ad T);have L:=af (And.intro s ad);obtain⟨a2,a3⟩:=iC (A.keys.getD k 0);obtain⟨U,V⟩:=iC (A.items.getD k 0);rw[a3]at ak cC;rw[V]at J cD;have aL:=(ae g.1.nb 3).trans rfl;clear a3 V s ad
      as_aux_lemma=>
      go_wp2
      go_loopw [11,72] (λcX b5 cY=>∃l:Nat,b5=.int .i64 l/\l<=B.keys.length/\cX=.bool ((ag l).any (λl=>u k l&&t k l))/\aJ wr.heap.size wr cY) (λ_ b5 _=>B.keys.length - (intOf b5).toNat)
      case atStart=>exact⟨0,rfl,aT _,rfl,Below.refl _ _⟩
      case round=>
       as_aux_lemma=>
       obtain⟨l,rfl,T,rfl,a4⟩:=hrel;have bp:=af (g.1.mono a4);have b6:=af a4;replace ak:=iU a4 ak;replace J:=iU a4 J;clear a4;obtain⟨bq,b7⟩:=iC ((ag l).any (λl=>u k l&&t k l));rw[b7];have b8:=af b7;clear b7;by_cases a5:l<B.keys.length
       ·have ds:(l:Int)<(B.keys.length:Int):=iE
        have br:l<B.items.length:=(by rw[<-a1.1.2];exact a5);have dt:(l:Int)<(B.items.length:Int):=iE;obtain⟨mb,c0,rfl,a6⟩:=(P.1 _ bp.1.below).2.2.1.at a5;obtain⟨cE,cF,rfl,Q⟩:=(P.1 _ bp.1.below).2.2.2.at br;have Y:=af (λX c=>cC.1 l X c a5);have y:=af (λX c=>cD.1 l X c br);have du:=af (And.intro a5 br);obtain⟨a7,a8⟩:=iC (B.keys.getD l 0);obtain⟨aa,ab⟩:=iC (B.items.getD l 0);rw[a8]at a6 Y;rw[ab]at Q y;clear a8 ab a5 br
        as_aux_lemma=>
        cases bq
        case' false=>
         cases E:u k l
         case' true=>cases n:t k l
        all_goals
         (try rw[E]at Y)
         (try rw[n]at y)
         go_upto_region 12 with fail
         refine Mix.mM (aF:=?_) iF iF iF iF iF ?_ ?_;rotate_left 1
         ·intro ρ a
          obtain⟨h,b9,ca,bi,bj,bk,aL,bl⟩:=bp.1.grow a;have d:=af h;clear h;have cb:=kV a J;have cc:=kV a Q;have c1:=kV a ak;have c2:=kV a a6
          repeat(go_big_quiet_step((first|(go_at_call 121;with_reducible exact iR.Grow.calls (Y.1 _ (d.1 _)))|(go_at_call 121;with_reducible exact iR.Grow.calls (y.1 _ (d.1 _))))))
          apply aO;exact rfl
         intro Z M;have ac:=af M;clear M;go_wp2;go_roundw
         case rel=>exact⟨l+1,by go_num,iE,by rw[CU,b8.1];first|rfl|(rw[E];rfl)|(rw[E,n];rfl),b6.1.trans (ac.1.mono b6.1.size)⟩
         case measure=>simp[intOf];omega
       ·obtain rfl:l=B.keys.length:=iE
        cases bq with
        |false=>have m:=af (show jy N (f+1) i j=ax from b.1.trans (CV L.1.1 b8.1));clear b;go_wp2;go_ret;exact⟨by rw[m.1];rfl,bp.1.below⟩
        |true=>
         go_wp2;go_roundw
         case rel=>exact⟨k+1,by go_num,by have:=L.1.1;omega,C.1.1.trans (b6.1.mono C.1.1.size),by rw[CS,C.1.2,b8.1];rfl⟩
         case measure=>have:=L.1.1;simp[intOf];omega
     ·obtain rfl:k=A.keys.length:=iE
      have m:=af (show jy N (f+1) i j=aI from b.1.trans C.1.2);clear b;go_wp2;go_ret;exact⟨by rw[m.1];rfl,g.1.below⟩
   rotate_left 1
   ·have b:=af (b.1.trans (gZ (λh=>by rw[R]at h;exact absurd h.2 iG)))
    have cy:(A.kind==10)=aI:=(by rw[r];rfl);have al:decide (A.kind≠10)=ax:=(by rw[r];rfl);have a1:=af (And.intro (O.1.2.2.1 r) (O.1.2.2.2.1 (by rw[<-bo.1.1];exact r)));clear r;have c3:=af al
    as_aux_lemma=>
    go_wp2
    go_loopw [105] (λG wr=>∃k:Nat,G=.int .i64 k/\k<=A.items.length/\aJ W.heap.size W wr/\(ag k).all (λk=>(decide (A.kind≠10)||u k k)&&t k k)=aI) (λG _=>A.items.length - (intOf G).toNat)
    case atStart=>exact⟨0,rfl,aT _,Below.refl _ _,rfl⟩
    case round=>
     as_aux_lemma=>
     obtain⟨k,rfl,S,I,D⟩:=hrel;have g:=af (o.1.mono I);have C:=af (And.intro I D);clear I D;by_cases s:k<A.items.length
     ·have cz:(k:Int)<(A.items.length:Int):=iE
      have F:k<B.items.length:=(by rw[<-bo.1.2];exact s);have c4:(k:Int)<(B.items.length:Int):=iE;obtain⟨cA,cB,rfl,J⟩:=(P.1 wr g.1.below).2.1.at s;obtain⟨cE,cF,rfl,Q⟩:=(P.1 wr g.1.below).2.2.2.at F;have y:=af (λX c=>b4.1 k k X c s F);have L:=af s;obtain⟨U,V⟩:=iC (A.items.getD k 0);obtain⟨aa,ab⟩:=iC (B.items.getD k 0);rw[V]at J y;rw[ab]at Q y;have cd:k<A.keys.length:=(by rw[a1.1.1];exact s);have dv:(k:Int)<(A.keys.length:Int):=iE;have ce:k<B.keys.length:=(by rw[a1.1.2];exact F);have dx:(k:Int)<(B.keys.length:Int):=iE;obtain⟨cW,lo,rfl,ak⟩:=(P.1 wr g.1.below).1.at cd;obtain⟨mb,c0,rfl,a6⟩:=(P.1 wr g.1.below).2.2.1.at ce;have Y:=af (λX c=>cv.1 k k X c cd ce);obtain⟨a2,a3⟩:=iC (A.keys.getD k 0);obtain⟨a7,a8⟩:=iC (B.keys.getD k 0);rw[a3]at ak Y;rw[a8]at a6 Y;clear a3 a8 cd ce;clear V ab s F
      as_aux_lemma=>
      cases E:u k k
      case' true=>cases n:t k k
      all_goals
       (try rw[E]at Y)
       (try rw[n]at y)
       go_upto_region 21 with fail
       refine Mix.mM (aF:=?_) iF iF iF iF iF ?_ ?_;rotate_left 1
       ·intro ρ a
        obtain⟨h,b9,ca,bi,bj,bk,aL,bl⟩:=g.1.grow a;have d:=af h;clear h;have cb:=kV a J;have cc:=kV a Q;have c1:=kV a ak;have c2:=kV a a6
        repeat(go_big_quiet_step((first|(go_at_call 121;with_reducible exact iR.Grow.calls (Y.1 _ (d.1 _)))|(go_at_call 121;with_reducible exact iR.Grow.calls (y.1 _ (d.1 _))))))
        apply aO;exact rfl
       intro Z M;have ac:=af M;clear M;go_wp2
      rotate_left 1
      ·have cf:PLift (((decide (A.kind≠10)||u k k)&&t k k)=aI):=⟨by rw[al,E,n];rfl⟩
       go_roundw
       case rel=>exact⟨k+1,by go_num,by have:=L.1;omega,C.1.1.trans (ac.1.mono C.1.1.size),by rw[CS,C.1.2,cf.1];rfl⟩
       case measure=>have:=L.1;simp[intOf];omega
      all_goals
       have m:=af (show jy N (f+1) i j=ax from b.1.trans (CV L.1 (by rw[al,E];first|rfl|(rw[n];rfl))));go_ret;exact⟨by rw[m.1];rfl,g.1.below.trans (ac.1.mono g.1.below.size)⟩
     ·obtain rfl:k=A.items.length:=iE
      have m:=af (show jy N (f+1) i j=aI from b.1.trans C.1.2);clear b;go_wp2;go_ret;exact⟨by rw[m.1];rfl,g.1.below⟩
   all_goals
    have b:=af (b.1.trans (gZ (λh=>r h.1)));have cy:(A.kind==10)=ax:=(by rw[iy];exact r);have al:decide (A.kind≠10)=aI:=iq r;clear r;have c3:=af al
    as_aux_lemma=>
    go_wp2
    go_loopw [105] (λG wr=>∃k:Nat,G=.int .i64 k/\k<=A.items.length/\aJ W.heap.size W wr/\(ag k).all (λk=>(decide (A.kind≠10)||u k k)&&t k k)=aI) (λG _=>A.items.length - (intOf G).toNat)
    case atStart=>exact⟨0,rfl,aT _,Below.refl _ _,rfl⟩
    case round=>
     as_aux_lemma=>
     obtain⟨k,rfl,S,I,D⟩:=hrel;have g:=af (o.1.mono I);have C:=af (And.intro I D);clear I D;by_cases s:k<A.items.length
     ·have cz:(k:Int)<(A.items.length:Int):=iE
      have F:k<B.items.length:=(by rw[<-bo.1.2];exact s);have c4:(k:Int)<(B.items.length:Int):=iE;obtain⟨cA,cB,rfl,J⟩:=(P.1 wr g.1.below).2.1.at s;obtain⟨cE,cF,rfl,Q⟩:=(P.1 wr g.1.below).2.2.2.at F;have y:=af (λX c=>b4.1 k k X c s F);have L:=af s;obtain⟨U,V⟩:=iC (A.items.getD k 0);obtain⟨aa,ab⟩:=iC (B.items.getD k 0);rw[V]at J y;rw[ab]at Q y;clear V ab s F
      as_aux_lemma=>
      cases n:t k k with
      |false=>
       rw[n]at y;have m:=af (show jy N (f+1) i j=ax from b.1.trans (CV L.1 (by rw[al,n];rfl)));clear b
       go_upto_region 21 with fail
       refine Mix.mM (aF:=?_) iF iF iF iF iF ?_ ?_;rotate_left 1
       ·intro ρ a
        have d:=af (λx:iR.Grow ρ=>g.1.mono (a.trans (x.h.mono a.size)));have b9:=λx:iR.Grow ρ=>(ae (d.1 x).box 0).trans rfl
        have ca:=λx:iR.Grow ρ=>(ae (d.1 x).box 1).trans rfl
        have bi:=λx:iR.Grow ρ=>(ae (d.1 x).na 0).trans rfl
        have bj:=λx:iR.Grow ρ=>(ae (d.1 x).na 3).trans rfl
        have bk:=λx:iR.Grow ρ=>(ae (d.1 x).na 4).trans rfl
        have aL:=λx:iR.Grow ρ=>(ae (d.1 x).nb 3).trans rfl
        have bl:=λx:iR.Grow ρ=>(ae (d.1 x).nb 4).trans rfl
        have cb:=λx:iR.Grow ρ=>iU (a.trans (x.h.mono a.size)) J
        have cc:=λx:iR.Grow ρ=>iU (a.trans (x.h.mono a.size)) Q
        repeat(go_big_quiet_step((go_at_call 121;with_reducible exact iR.Grow.calls (y.1 _ (d.1 _)))))
        apply aO;exact rfl
       intro Z M;have ac:=af M;clear M;go_wp2;go_ret;exact⟨by rw[m.1];rfl,g.1.below.trans (ac.1.mono g.1.below.size)⟩
      |true=>
       rw[n]at y;have cf:PLift (((decide (A.kind≠10)||u k k)&&t k k)=aI):=⟨by rw[al,n];rfl⟩
       go_upto_region 21 with fail
       refine Mix.mM (aF:=?_) iF iF iF iF iF ?_ ?_;rotate_left 1
       ·intro ρ a
        have d:=af (λx:iR.Grow ρ=>g.1.mono (a.trans (x.h.mono a.size)));have b9:=λx:iR.Grow ρ=>(ae (d.1 x).box 0).trans rfl
        have ca:=λx:iR.Grow ρ=>(ae (d.1 x).box 1).trans rfl
        have bi:=λx:iR.Grow ρ=>(ae (d.1 x).na 0).trans rfl
        have bj:=λx:iR.Grow ρ=>(ae (d.1 x).na 3).trans rfl
        have bk:=λx:iR.Grow ρ=>(ae (d.1 x).na 4).trans rfl
        have aL:=λx:iR.Grow ρ=>(ae (d.1 x).nb 3).trans rfl
        have bl:=λx:iR.Grow ρ=>(ae (d.1 x).nb 4).trans rfl
        have cb:=λx:iR.Grow ρ=>iU (a.trans (x.h.mono a.size)) J
        have cc:=λx:iR.Grow ρ=>iU (a.trans (x.h.mono a.size)) Q
        repeat(go_big_quiet_step((go_at_call 121;with_reducible exact iR.Grow.calls (y.1 _ (d.1 _)))))
        apply aO;exact rfl
       intro Z M;have ac:=af M;clear M;go_wp2;go_roundw
       case rel=>exact⟨k+1,by go_num,by have:=L.1;omega,C.1.1.trans (ac.1.mono C.1.1.size),by rw[CS,C.1.2,cf.1];rfl⟩
       case measure=>have:=L.1;simp[intOf];omega
     ·obtain rfl:k=A.items.length:=iE
      have m:=af (show jy N (f+1) i j=aI from b.1.trans C.1.2);clear b;go_wp2;go_ret;exact⟨by rw[m.1];rfl,g.1.below⟩
end Go.Proofs.YthcalnnipjflkaaGreatDoor
