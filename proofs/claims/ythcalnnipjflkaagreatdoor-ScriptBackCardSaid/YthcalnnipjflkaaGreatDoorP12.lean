import Derived.Test.YthcalnnipjflkaaGreatDoorP00
import Derived.Test.YthcalnnipjflkaaGreatDoorP04
import Derived.Test.YthcalnnipjflkaaGreatDoorP05
import Derived.Shelf.GgSortFunc.SW
import Derived.Sort.WalkA
import Derived.Sort.WalkB2
import Derived.Sort.WalkB12
import Derived.Deep.LoopGhost
import Derived.Shelf.RegionOpenPlain
import Derived.Sort.WalkC
open PLift renaming up -> ae
open Go.Lib renaming cell_of_heap -> af
open Option renaming none -> ag, some -> au, getD_some -> aV
open Go renaming World -> ah, wpQuiet_nil -> ax, Value -> aB, Calls -> aK, heap_alloc_new -> bD, TypeId -> bJ
open Bool renaming false -> aj, true -> ay, false_eq_true -> aX, not_false -> bG, and_self -> bH, not_true -> bI
open List renaming range -> az, getElem?_eq_getElem -> aH, getD_eq_getElem?_getD -> aI, getElem_mem -> aN, getElem?_cons_zero -> aY, getElem?_cons_succ -> aZ, getElem?_toArray -> bu, range_succ -> bC, replicate -> bF
open Go.Proofs.Tryz renaming prog -> aA
open Array renaming getElem?_eq_some_iff -> aC, getElem?_modify -> aJ, getElem?_setIfInBounds_ne -> aW
open Go.World renaming setCell -> aO
open Nat renaming le_refl -> aP, zero_le -> aT, not_lt_zero -> bn, lt_of_lt_of_le -> bz, le_trans -> bK
open Int renaming toNat_of_nonneg -> aQ, toNat_natCast -> aS
open Go.RowKit renaming Below -> aU
set_option linter.all false
set_option maxHeartbeats 16000000
set_option maxRecDepth 1000000
namespace Go.Proofs.YthcalnnipjflkaaGreatDoor
open Go.RowKit
open Go.Lib hiding intOf
def jy (N:List Nd):Nat->Nat->Nat->Bool
 |0,_,_=>aj
 |f+1,i,j=>
  if(N.getD i nd0).kind=(N.getD j nd0).kind/\((N.getD i nd0).text.toList==(N.getD j nd0).text.toList)=ay/\(N.getD i nd0).ord=(N.getD j nd0).ord/\(N.getD i nd0).items.length=(N.getD j nd0).items.length then
   if(N.getD i nd0).kind=10/\(N.getD i nd0).ord=aj then
    (az (N.getD i nd0).keys.length).all λk=>(az (N.getD j nd0).keys.length).any λl=>jy N f ((N.getD i nd0).keys.getD k 0).toNat ((N.getD j nd0).keys.getD l 0).toNat&&jy N f ((N.getD i nd0).items.getD k 0).toNat ((N.getD j nd0).items.getD l 0).toNat
   else
    (az (N.getD i nd0).items.length).all λk=>(decide ((N.getD i nd0).kind≠10)||jy N f ((N.getD i nd0).keys.getD k 0).toNat ((N.getD j nd0).keys.getD k 0).toNat)&&jy N f ((N.getD i nd0).items.getD k 0).toNat ((N.getD j nd0).items.getD k 0).toNat
  else aj
theorem VH (N:List Nd)(f i j:Nat):jy N (f+1) i j=(
 if(N.getD i nd0).kind=(N.getD j nd0).kind/\((N.getD i nd0).text.toList==(N.getD j nd0).text.toList)=ay/\(N.getD i nd0).ord=(N.getD j nd0).ord/\(N.getD i nd0).items.length=(N.getD j nd0).items.length then
  if(N.getD i nd0).kind=10/\(N.getD i nd0).ord=aj then
   (az (N.getD i nd0).keys.length).all λk=>(az (N.getD j nd0).keys.length).any λl=>jy N f ((N.getD i nd0).keys.getD k 0).toNat ((N.getD j nd0).keys.getD l 0).toNat&&jy N f ((N.getD i nd0).items.getD k 0).toNat ((N.getD j nd0).items.getD l 0).toNat
  else
   (az (N.getD i nd0).items.length).all λk=>(decide ((N.getD i nd0).kind≠10)||jy N f ((N.getD i nd0).keys.getD k 0).toNat ((N.getD j nd0).keys.getD k 0).toNat)&&jy N f ((N.getD i nd0).items.getD k 0).toNat ((N.getD j nd0).items.getD k 0).toNat
 else aj):=rfl
def yV (N:List Nd):Prop:=∀n∈N,n.kind=10->n.keys.length=n.items.length
def uT (N:List Nd)(K:Nat->Prop)(H:Nat->Nat):Prop:=∀i,K i->i<N.length/\∀x∈(N.getD i nd0).keys++(N.getD i nd0).items,K x.toNat/\H x.toNat<H i
theorem rP {W:ah}{b:Nat}{vs:Array aB}{T:bJ}(h:W.heap[b]?=au (.cells vs T))(o:Nat):W.cell? ⟨b,o,ag⟩=vs[o]?:=by unfold World.cell?;simp[h]
theorem Fe {W:ah}{b:Nat}{vs:Array aB}{T:bJ}(h:W.heap[b]?=au (.cells vs T))(o:Nat):W.frozen? ⟨b,o,ag⟩=aj:=by unfold World.frozen?;simp[h]
def xJ (W:ah)(b:Nat)(X:Obj):ah:={W with heap:=W.heap.setIfInBounds b X}
theorem VI {W:ah}{b:Nat}{X:Obj}(h:W.heap[b]?=au X):xJ W b X=W:=by
 have c:b<W.heap.size:=(aC.1 h).1;have he:W.heap[b]=X:=(aC.1 h).2;unfold xJ
 have:W.heap.setIfInBounds b X=W.heap:=by
  rw[<-he];apply Array.ext
  ·simp
  ·intro i d a
   by_cases hi:b=i
   ·subst hi;simp
   ·rw[Array.getElem_setIfInBounds_ne a hi]
 rw[this]
theorem VJ (W:ah)(b o:Nat)(c:Array aB)(T:bJ)(a:Nat×Nat)(v:aB)(d:b<W.heap.size):
  (xJ W b (.cells c T a)).setCell ⟨b,o,ag⟩ v=xJ W b (.cells (c.setIfInBounds o v) T a):=by
 unfold xJ aO;simp only
 have:(W.heap.setIfInBounds b (.cells c T a)).modify b (fun
   |.cells c e frozen=>.cells (if(ag:Option Nat).isSome then c else c.setIfInBounds o v) e frozen
   |o=>o)=W.heap.setIfInBounds b (.cells (c.setIfInBounds o v) T a):=by
  apply Array.ext_getElem?;intro i;rw[aJ];by_cases hi:b=i
  ·subst hi
   simp[d]
  ·rw[gZ hi,aW hi,aW hi]
 exact ig (λh=>({W with heap:=h}:ah)) this
theorem JW {W:ah}{b:Nat}{T:bJ}{d e f g i:aB}(h:W.heap[b]?=au (.cells #[d,e,f,g,i] T))(v0 v1 v2 a c:aB):
  ((((W.setCell ⟨b,0,ag⟩ v0).setCell ⟨b,1,ag⟩ v1).setCell ⟨b,2,ag⟩ v2).setCell ⟨b,3,ag⟩ a).setCell ⟨b,4,ag⟩ c={W with heap:=W.heap.setIfInBounds b (.cells #[v0,v1,v2,a,c] T)}:=by
 have j:b<W.heap.size:=(aC.1 h).1
 have key:∀V:ah,V=xJ W b (.cells #[d,e,f,g,i] T)->
   ((((V.setCell ⟨b,0,ag⟩ v0).setCell ⟨b,1,ag⟩ v1).setCell ⟨b,2,ag⟩ v2).setCell ⟨b,3,ag⟩ a).setCell ⟨b,4,ag⟩ c=xJ W b (.cells #[v0,v1,v2,a,c] T):=by
  rintro V rfl;simp[VJ,j]
 exact key W (VI h).symm
structure SC (w:ah)(v:aB)(root:Int)(a b:Nd)(ka ia kb ib:aB)(p q:Nat)(X:ah):Prop where
 below:aU w.heap.size w X
 box:X.heap[w.heap.size]?=au (.cells #[v,.int .i64 root] 117)
 na:X.heap[p]?=au (.cells #[.int .i64 a.kind,.string a.text,.bool a.ord,ka,ia] 150)
 nb:X.heap[q]?=au (.cells #[.int .i64 b.kind,.string b.text,.bool b.ord,kb,ib] 150)
theorem SC.mono {w:ah}{v:aB}{root:Int}{a b:Nd}{d e f g:aB}{p q:Nat}{X Y:ah}(h:SC w v root a b d e f g p q X)(c:aU X.heap.size X Y):SC w v root a b d e f g p q Y:=
 ⟨h.below.trans (c.mono h.below.size),Mix.lu c h.box,Mix.lu c h.na,Mix.lu c h.nb⟩
def VV (N:List Nd)(v:aB)(root:Int)(K:Nat->Prop)(H:Nat->Nat)(f:Nat):Prop:=∀i j w,jJ w v N->K i->j<N.length->H i<f->
 aK aA 121 #[.agg #[v,.int .i64 root],.int .i64 (i:Nat),.int .i64 (j:Nat)] w λe w'=>e=.returned (.bool (jy N f i j))/\aU w.heap.size w w'
theorem CS (P:Nat->Bool)(k:Nat):(az (k+1)).all P=((az k).all P&&P k):=by simp[bC]
theorem CU (P:Nat->Bool)(k:Nat):(az (k+1)).any P=((az k).any P||P k):=by simp[bC]
theorem CV {P:Nat->Bool}{n k:Nat}(a:k<n)(h:P k=aj):(az n).all P=aj:=by rw[List.all_eq_false];exact⟨k,List.mem_range.2 a,by rw[h];simp⟩
theorem rZ.at {w:ah}{p:Option Addr}{n c:Nat}{l:List Int}(h:rZ w (.slice p n c) l){k:Nat}(d:k<l.length):∃b o,p=au ⟨b,o,ag⟩/\w.cell? ⟨b,o+k,ag⟩=au (.int .i64 (l.getD k 0)):=by
 obtain⟨a,i,e,_,f⟩:=h;cases e;rcases f with rfl|⟨b,o,rfl,g⟩
 ·exact absurd d (bn _)
 ·exact⟨b,o,rfl,g k _ (by rw[aI,aH d,aV])⟩
theorem getD_mem {l:List Int}{k:Nat}(a:k<l.length):l.getD k 0∈l:=by rw[aI,aH a,aV];exact aN a
theorem SC.grow {w:ah}{v:aB}{root:Int}{a b:Nd}{c d e f:aB}{p q:Nat}{X:ah}(h:SC w v root a b c d e f p q X){ρ:ah}(i:aU X.heap.size X ρ):
  (∀x:iR.Grow ρ,SC w v root a b c d e f p q x.w)/\(∀x:iR.Grow ρ,x.w.cell? ⟨w.heap.size,0,ag⟩=au v)/\(∀x:iR.Grow ρ,x.w.cell? ⟨w.heap.size,1,ag⟩=au (.int .i64 root))/\(∀x:iR.Grow ρ,x.w.cell? ⟨p,0,ag⟩=au (.int .i64 a.kind))/\
   (∀x:iR.Grow ρ,x.w.cell? ⟨p,3,ag⟩=au c)/\(∀x:iR.Grow ρ,x.w.cell? ⟨p,4,ag⟩=au d)/\(∀x:iR.Grow ρ,x.w.cell? ⟨q,3,ag⟩=au e)/\∀x:iR.Grow ρ,x.w.cell? ⟨q,4,ag⟩=au f:=by
 have g:∀x:iR.Grow ρ,SC w v root a b c d e f p q x.w:=λx=>h.mono (i.trans (x.h.mono i.size))
 exact⟨g,λx=>af (g x).box 0,λx=>af (g x).box 1,λx=>af (g x).na 0,λx=>af (g x).na 3,λx=>af (g x).na 4,λx=>af (g x).nb 3,λx=>af (g x).nb 4⟩
theorem kV {w ρ:ah}(a:aU w.heap.size w ρ){b o:Nat}{v:aB}(h:w.cell? ⟨b,o,ag⟩=au v)(x:iR.Grow ρ):x.w.cell? ⟨b,o,ag⟩=au v:=iU (a.trans (x.h.mono a.size)) h
theorem VX (N:List Nd)(v:aB)(root:Int)(K:Nat->Prop)(H:Nat->Nat)(hR:nN N)(bs:yV N)(hK:uT N K H):∀f,VV N v root K H f:=by
 intro f
 induction f with
 |zero=>intro _ _ _ _ _ _ h;exact absurd h (bn _)
 |succ f cf=>
  intro i j w cE ad a9 hf;obtain⟨hi,ba⟩:=hK i ad;obtain⟨va,vc,rfl,cg,cF⟩:=cE;rcases cF with cG|⟨nb,no,rfl,D⟩
  ·exfalso;rw[cG]at hi;exact bn _ hi
  have ch:jJ w (.slice (au ⟨nb,no,ag⟩) N.length vc) N:=⟨_,_,rfl,cg,.inr ⟨nb,no,rfl,D⟩⟩;have bt:=ae ch;clear ch;have ci:=D i N[i] (aH hi);have cj:=D j N[j] (aH a9);have b:=ae (VH N f i j);have bv:N.getD i nd0=N[i]:=by rw[aI,aH hi,aV]
  have ck:N.getD j nd0=N[j]:=by rw[aI,aH a9,aV]
  rw[bv]at ba;rw[bv,ck]at b;have bw:=hR N[i] (aN hi);have bx:=hR N[j] (aN a9);have bA:=bs N[i] (aN hi);have bB:=bs N[j] (aN a9);clear bv ck;generalize N[i]=A at ci b bw bA ba;generalize N[j]=B at cj b bx bB;obtain⟨aw,aD,am,an,ao,ap,aq,cl,cm⟩:=ci;obtain⟨aE,aG,ar,b1,b2,b3,av,F,cn⟩:=cj;have bb:=ae (iJ cl (iJ cm (iJ F cn)));obtain⟨aw,bc,rfl,cH,-⟩:=cl;obtain⟨aD,bd,rfl,cI,-⟩:=cm;obtain⟨aE,be,rfl,cJ,-⟩:=F;obtain⟨aG,bf,rfl,cK,-⟩:=cn;have c3:(i:Int)<(N.length:Int):=iE
  have c4:(j:Int)<(N.length:Int):=iE
  have O:=ae (iJ bw (iJ bx (iJ bA (iJ bB ba))));have bE:=ae (λ(i' j':Nat) (X:ah) (c:jJ X (.slice (au ⟨nb,no,ag⟩) N.length vc) N) (E:K i') (n:j'<N.length) (bg:H i'<H i)=>cf i' j' X c E n iE);obtain⟨W0,bL⟩:=iC (w.alloc (.cells #[.slice (au ⟨nb,no,ag⟩) N.length vc,.int .i64 root] 117));have z:PLift (aU w.heap.size w W0/\W0.heap[w.heap.size]?=au (.cells #[.slice (au ⟨nb,no,ag⟩) N.length vc,.int .i64 root] 117)/\w.heap.size<W0.heap.size):=⟨by rw[<-bL];exact⟨iW w _,bD w _,(aC.1 (bD w _)).1⟩⟩;have bh:=iK z.1.2.1 0 (.slice (au ⟨nb,no,ag⟩) N.length vc);clear D bw bx bA bB ba cf ad hf hR bs hK cg
  as_aux_lemma=>
  go_enter Tryz.func121,Tryz.ntmps121
  as_aux_lemma=>
  go_upto_region 1 with fail
  (try rw[bL])
  replace am:=iU z.1.1 am;replace an:=iU z.1.1 an;replace ao:=iU z.1.1 ao;replace ap:=iU z.1.1 ap;replace aq:=iU z.1.1 aq;replace ar:=iU z.1.1 ar;replace b1:=iU z.1.1 b1;replace b2:=iU z.1.1 b2;replace b3:=iU z.1.1 b3;replace av:=iU z.1.1 av;clear bL;refine Mix.VG (aF:=?aF) 10 7 8 _ _ _ _ (.cells #[.int .i64 0,.string ⟨#[]⟩,.bool aj,.slice ag 0 0,.slice ag 0 0] 150) (.cells #[.int .i64 0,.string ⟨#[]⟩,.bool aj,.slice ag 0 0,.slice ag 0 0] 150) (.cells #[.int .i64 A.kind,.string A.text,.bool A.ord,.slice aw A.keys.length bc,.slice aD A.items.length bd] 150) (.cells #[.int .i64 B.kind,.string B.text,.bool B.ord,.slice aE B.keys.length be,.slice aG B.items.length bf] 150) iF rfl iF iF iF rfl rfl rfl rfl rfl rfl rfl rfl rfl rfl rfl rfl iG iF iF iF iF iF iF ?hA ?z0 ?z1 ?z2 ?z3 ?hK
  case hA=>
   intro ρ a;have g0:=kV a bh;have bi:=kV a am;have c5:=kV a an;have c6:=kV a ao;have bj:=kV a ap;have bk:=kV a aq;have c7:=kV a ar;have c8:=kV a b1;have c9:=kV a b2;have aL:=kV a b3;have bl:=kV a av;clear a;simp only[List.take_succ_cons,List.take_zero]
   repeat(go_big_quiet_step(fail))
   refine ax ?_;exact rfl
  case z0=>intro v W;constructor<;>go_simp
  case z1=>intro v W;constructor<;>go_simp
  case z2=>clear bh am an ao ap aq ar b1 b2 b3 av;intro b1 b2 W h;have bM:=rP h 0;have E:=rP h 1;have n:=rP h 2;have bg:=rP h 3;have bN:=rP h 4;simp only[bu,aY,aZ]at bM E n bg bN;have hf:=Fe h;have he:=ae (JW h);clear h;go_simp;rw[he.1]
  case z3=>clear bh am an ao ap aq ar b1 b2 b3 av;intro b1 b2 W h;have bM:=rP h 0;have E:=rP h 1;have n:=rP h 2;have bg:=rP h 3;have bN:=rP h 4;simp only[bu,aY,aZ]at bM E n bg bN;have hf:=Fe h;have he:=ae (JW h);clear h;go_simp;rw[he.1]
  case hK=>
   intro p q W bO hp cP cQ co cp;have o:PLift (SC w (.slice (au ⟨nb,no,ag⟩) N.length vc) root A B (.slice aw A.keys.length bc) (.slice aD A.items.length bd) (.slice aE B.keys.length be) (.slice aG B.items.length bf) p q W):=⟨⟨z.1.1.trans (bO.mono z.1.1.size),Mix.lu bO z.1.2.1,co,cp⟩⟩;clear bh am an ao ap aq ar b1 b2 b3 av bO hp cP cQ co cp;have da:=ae (iJ cH (iJ cI (iJ cJ cK)));have P:=ae (λX (c:aU w.heap.size w X)=>iJ (bb.1.1.below c) (iJ (bb.1.2.1.below c) (iJ (bb.1.2.2.1.below c) (bb.1.2.2.2.below c))));have db:=(af o.1.na 0).trans rfl;have dc:=(af o.1.na 1).trans rfl;have bR:=(af o.1.na 2).trans rfl;have dd:=(af o.1.na 3).trans rfl;have de:=(af o.1.na 4).trans rfl;have d0:=(af o.1.nb 0).trans rfl;have df:=(af o.1.nb 1).trans rfl;have bS:=(af o.1.nb 2).trans rfl;have dg:=(af o.1.nb 3).trans rfl;have dj:=(af o.1.nb 4).trans rfl
   as_aux_lemma=>
   by_cases e1:A.kind=B.kind
   case neg=>have cR:(A.kind==B.kind)=aj:=(by rw[iy];exact e1);have cS:(A.kind !=B.kind)=ay:=(by rw[bne_iff_ne];exact e1);have m:=ae (show jy N (f+1) i j=aj from b.1.trans (gZ (λh=>e1 h.1)));clear b e1;go_wp2;go_ret;exact⟨by rw[m.1];rfl,o.1.below⟩
   have cR:(A.kind==B.kind)=ay:=(by rw[beq_iff_eq];exact e1);have cS:(A.kind !=B.kind)=aj:=(by rw[e1];simp);by_cases bm:(A.text.toList==B.text.toList)=ay
   case neg=>have dk:(A.text.toList==B.text.toList)=aj:=Bool.eq_false_iff.2 bm;have m:=ae (show jy N (f+1) i j=aj from b.1.trans (gZ (λh=>bm h.2.1)));clear b e1 bm;go_wp2;go_ret;exact⟨by rw[m.1];rfl,o.1.below⟩
   have aM:=ae (λh:A.ord≠B.ord=>show jy N (f+1) i j=aj from b.1.trans (gZ (λn=>h n.2.2.1)));cases R:A.ord
   case' true=>
    cases ai:B.ord
    case false=>have m:=ae (aM.1 (by rw[R,ai];decide));rw[R]at bR;rw[ai]at bS;clear b aM e1;go_wp2;go_ret;exact⟨by rw[m.1];rfl,o.1.below⟩
   case' false=>
    cases ai:B.ord
    case true=>have m:=ae (aM.1 (by rw[R,ai];decide));rw[R]at bR;rw[ai]at bS;clear b aM e1;go_wp2;go_ret;exact⟨by rw[m.1];rfl,o.1.below⟩
   all_goals
    rw[R]at bR;rw[ai]at bS;clear aM;by_cases aR:A.items.length=B.items.length
    case neg=>have cT:((A.items.length:Int)==(B.items.length:Int))=aj:=(by rw[iy];omega);have dl:((A.items.length:Int)!=(B.items.length:Int))=ay:=(by rw[bne_iff_ne];omega);have m:=ae (show jy N (f+1) i j=aj from b.1.trans (gZ (λh=>aR h.2.2.2)));clear b e1 aR;go_wp2;go_ret;exact⟨by rw[m.1];rfl,o.1.below⟩
    have cT:((A.items.length:Int)==(B.items.length:Int))=ay:=(by rw[beq_iff_eq];omega);have b:=ae (b.1.trans (gY ⟨e1,bm,by rw[R,ai],aR⟩));have bo:=ae (iJ e1 aR);obtain⟨u,cq⟩:∃u:Nat->Nat->Bool,(λk l=>jy N f (A.keys.getD k 0).toNat (B.keys.getD l 0).toNat)=u:=⟨_,rfl⟩;obtain⟨t,cr⟩:∃t:Nat->Nat->Bool,(λk l=>jy N f (A.items.getD k 0).toNat (B.items.getD l 0).toNat)=t:=⟨_,rfl⟩;have g1:∀k l,jy N f (A.keys.getD k 0).toNat (B.keys.getD l 0).toNat=u k l:=λk l=>by rw[<-cq]
    have g2:∀k l,jy N f (A.items.getD k 0).toNat (B.items.getD l 0).toNat=t k l:=λk l=>by rw[<-cr]
    have cs:=ae (λ(k l:Nat) (X:ah) (c:SC w (.slice (au ⟨nb,no,ag⟩) N.length vc) root A B (.slice aw A.keys.length bc) (.slice aD A.items.length bd) (.slice aE B.keys.length be) (.slice aG B.items.length bf) p q X) (S:k<A.keys.length) (T:l<B.keys.length)=>show aK aA 121 #[.agg #[.slice (au ⟨nb,no,ag⟩) N.length vc,.int .i64 root],.int .i64 (A.keys.getD k 0),.int .i64 (B.keys.getD l 0)] X (λe w'=>e=.returned (.bool (u k l))/\aU X.heap.size X w')from by have r:=O.1.1.1 _ (getD_mem S);have bX:=O.1.2.1.1 _ (getD_mem T);have a0:=O.1.2.2.2.2 _ (List.mem_append_left _ (getD_mem S));have h:=bE.1 (A.keys.getD k 0).toNat (B.keys.getD l 0).toNat X (bt.1.below c.below) a0.1 iE a0.2;rw[g1,aQ r.1,aQ bX.1]at h;exact h)
    have b0:=ae (λ(k l:Nat) (X:ah) (c:SC w (.slice (au ⟨nb,no,ag⟩) N.length vc) root A B (.slice aw A.keys.length bc) (.slice aD A.items.length bd) (.slice aE B.keys.length be) (.slice aG B.items.length bf) p q X) (S:k<A.items.length) (T:l<B.items.length)=>show aK aA 121 #[.agg #[.slice (au ⟨nb,no,ag⟩) N.length vc,.int .i64 root],.int .i64 (A.items.getD k 0),.int .i64 (B.items.getD l 0)] X (λe w'=>e=.returned (.bool (t k l))/\aU X.heap.size X w')from by have r:=O.1.1.2 _ (getD_mem S);have bX:=O.1.2.1.2 _ (getD_mem T);have a0:=O.1.2.2.2.2 _ (List.mem_append_right _ (getD_mem S));have h:=bE.1 (A.items.getD k 0).toNat (B.items.getD l 0).toNat X (bt.1.below c.below) a0.1 iE a0.2;rw[g2,aQ r.1,aQ bX.1]at h;exact h)
    have ct:=ae (show(λk=>(az B.keys.length).any λl=>jy N f (A.keys.getD k 0).toNat (B.keys.getD l 0).toNat&&jy N f (A.items.getD k 0).toNat (B.items.getD l 0).toNat)=(λk=>(az B.keys.length).any λl=>u k l&&t k l)from by funext k;simp only[g1,g2]);have cv:=ae (show(λk=>(decide (A.kind≠10)||jy N f (A.keys.getD k 0).toNat (B.keys.getD k 0).toNat)&&jy N f (A.items.getD k 0).toNat (B.items.getD k 0).toNat)=(λk=>(decide (A.kind≠10)||u k k)&&t k k)from by funext k;simp only[g1,g2]);rw[ct.1,cv.1]at b;clear g1 g2 cq cr ct cv bE bt e1 aR;by_cases r:A.kind=10
   ·have b:=ae (b.1.trans (gY ⟨r,R⟩))
    have cw:(A.kind==10)=ay:=(by rw[r];rfl);have a1:=ae (iJ (O.1.2.2.1 r) (O.1.2.2.2.1 (by rw[<-bo.1.1];exact r)));clear r
    as_aux_lemma=>
    go_wp2
    go_loopw [64] (λG wr=>∃k:Nat,G=.int .i64 k/\k<=A.keys.length/\aU W.heap.size W wr/\(az k).all (λk=>(az B.keys.length).any λl=>u k l&&t k l)=ay) (λG _=>A.keys.length - (intOf G).toNat)
    case atStart=>exact⟨0,rfl,aT _,Below.refl _ _,rfl⟩
    case round=>
     as_aux_lemma=>
     obtain⟨k,rfl,S,I,D⟩:=hrel;have g:=ae (o.1.mono I);have C:=ae (iJ I D);clear I D;by_cases s:k<A.keys.length
     ·have cx:(k:Int)<(A.keys.length:Int):=iE
      have ad:k<A.items.length:=(by rw[<-a1.1.1];exact s);have dp:(k:Int)<(A.items.length:Int):=iE;obtain⟨cU,lo,rfl,ak⟩:=(P.1 wr g.1.below).1.at s;obtain⟨cy,cz,rfl,J⟩:=(P.1 wr g.1.below).2.1.at ad;have cA:=ae (λ(l:Nat) X c (T:l<B.keys.length)=>cs.1 k l X c s T);have cB:=ae (λ(l:Nat) X c (T:l<B.items.length)=>b0.1 k l X c ad T);have L:=ae (iJ s ad);obtain⟨a2,a3⟩:=iC (A.keys.getD k 0);obtain⟨U,V⟩:=iC (A.items.getD k 0);rw[a3]at ak cA;rw[V]at J cB;have aL:=(af g.1.nb 3).trans rfl;clear a3 V s ad
      as_aux_lemma=>
      go_wp2
      go_loopw [11,72] (λcV b4 cW=>∃l:Nat,b4=.int .i64 l/\l<=B.keys.length/\cV=.bool ((az l).any (λl=>u k l&&t k l))/\aU wr.heap.size wr cW) (λ_ b4 _=>B.keys.length - (intOf b4).toNat)
      case atStart=>exact⟨0,rfl,aT _,rfl,Below.refl _ _⟩
      case round=>
       as_aux_lemma=>
       obtain⟨l,rfl,T,rfl,a4⟩:=hrel;have bp:=ae (g.1.mono a4);have b5:=ae a4;replace ak:=iU a4 ak;replace J:=iU a4 J;clear a4;obtain⟨bq,b6⟩:=iC ((az l).any (λl=>u k l&&t k l));rw[b6];have b7:=ae b6;clear b6;by_cases a5:l<B.keys.length
       ·have dq:(l:Int)<(B.keys.length:Int):=iE
        have br:l<B.items.length:=(by rw[<-a1.1.2];exact a5);have dr:(l:Int)<(B.items.length:Int):=iE;obtain⟨mb,cX,rfl,a6⟩:=(P.1 _ bp.1.below).2.2.1.at a5;obtain⟨cC,cD,rfl,Q⟩:=(P.1 _ bp.1.below).2.2.2.at br;have Y:=ae (λX c=>cA.1 l X c a5);have y:=ae (λX c=>cB.1 l X c br);have ds:=ae (iJ a5 br);obtain⟨a7,a8⟩:=iC (B.keys.getD l 0);obtain⟨aa,ab⟩:=iC (B.items.getD l 0);rw[a8]at a6 Y;rw[ab]at Q y;clear a8 ab a5 br
        as_aux_lemma=>
        cases bq
        case' false=>
         cases E:u k l
         case' true=>cases n:t k l
        all_goals
         (try rw[E]at Y)
         (try rw[n]at y)
         go_upto_region 12 with fail
         refine Mix.mM (aF:=?_) iF iF iF iF iF ?_ ?_;rotate_left 1
         ·intro ρ a
          obtain⟨h,b8,b9,bi,bj,bk,aL,bl⟩:=bp.1.grow a;have d:=ae h;clear h;have ca:=kV a J;have cb:=kV a Q;have cY:=kV a ak;have c0:=kV a a6
          repeat(go_big_quiet_step((first|(go_at_call 121;with_reducible exact iR.Grow.calls (Y.1 _ (d.1 _)))|(go_at_call 121;with_reducible exact iR.Grow.calls (y.1 _ (d.1 _))))))
          apply ax;exact rfl
         intro Z M;have ac:=ae M;clear M;go_wp2;go_roundw
         case rel=>exact⟨l+1,by go_num,iE,by rw[CU,b7.1];first|rfl|(rw[E];rfl)|(rw[E,n];rfl),b5.1.trans (ac.1.mono b5.1.size)⟩
         case measure=>simp[intOf];omega
       ·obtain rfl:l=B.keys.length:=iE
        cases bq with
        |false=>have m:=ae (show jy N (f+1) i j=aj from b.1.trans (CV L.1.1 b7.1));clear b;go_wp2;go_ret;exact⟨by rw[m.1];rfl,bp.1.below⟩
        |true=>
         go_wp2;go_roundw
         case rel=>exact⟨k+1,by go_num,by have:=L.1.1;omega,C.1.1.trans (b5.1.mono C.1.1.size),by rw[CS,C.1.2,b7.1];rfl⟩
         case measure=>have:=L.1.1;simp[intOf];omega
     ·obtain rfl:k=A.keys.length:=iE
      have m:=ae (show jy N (f+1) i j=ay from b.1.trans C.1.2);clear b;go_wp2;go_ret;exact⟨by rw[m.1];rfl,g.1.below⟩
   rotate_left 1
   ·have b:=ae (b.1.trans (gZ (λh=>by rw[R]at h;exact absurd h.2 iG)))
    have cw:(A.kind==10)=ay:=(by rw[r];rfl);have al:decide (A.kind≠10)=aj:=(by rw[r];rfl);have a1:=ae (iJ (O.1.2.2.1 r) (O.1.2.2.2.1 (by rw[<-bo.1.1];exact r)));clear r;have c1:=ae al
    as_aux_lemma=>
    go_wp2
    go_loopw [105] (λG wr=>∃k:Nat,G=.int .i64 k/\k<=A.items.length/\aU W.heap.size W wr/\(az k).all (λk=>(decide (A.kind≠10)||u k k)&&t k k)=ay) (λG _=>A.items.length - (intOf G).toNat)
    case atStart=>exact⟨0,rfl,aT _,Below.refl _ _,rfl⟩
    case round=>
     as_aux_lemma=>
     obtain⟨k,rfl,S,I,D⟩:=hrel;have g:=ae (o.1.mono I);have C:=ae (iJ I D);clear I D;by_cases s:k<A.items.length
     ·have cx:(k:Int)<(A.items.length:Int):=iE
      have F:k<B.items.length:=(by rw[<-bo.1.2];exact s);have c2:(k:Int)<(B.items.length:Int):=iE;obtain⟨cy,cz,rfl,J⟩:=(P.1 wr g.1.below).2.1.at s;obtain⟨cC,cD,rfl,Q⟩:=(P.1 wr g.1.below).2.2.2.at F;have y:=ae (λX c=>b0.1 k k X c s F);have L:=ae s;obtain⟨U,V⟩:=iC (A.items.getD k 0);obtain⟨aa,ab⟩:=iC (B.items.getD k 0);rw[V]at J y;rw[ab]at Q y;have cc:k<A.keys.length:=(by rw[a1.1.1];exact s);have dt:(k:Int)<(A.keys.length:Int):=iE;have cd:k<B.keys.length:=(by rw[a1.1.2];exact F);have du:(k:Int)<(B.keys.length:Int):=iE;obtain⟨cU,lo,rfl,ak⟩:=(P.1 wr g.1.below).1.at cc;obtain⟨mb,cX,rfl,a6⟩:=(P.1 wr g.1.below).2.2.1.at cd;have Y:=ae (λX c=>cs.1 k k X c cc cd);obtain⟨a2,a3⟩:=iC (A.keys.getD k 0);obtain⟨a7,a8⟩:=iC (B.keys.getD k 0);rw[a3]at ak Y;rw[a8]at a6 Y;clear a3 a8 cc cd;clear V ab s F
      as_aux_lemma=>
      cases E:u k k
      case' true=>cases n:t k k
      all_goals
       (try rw[E]at Y)
       (try rw[n]at y)
       go_upto_region 21 with fail
       refine Mix.mM (aF:=?_) iF iF iF iF iF ?_ ?_;rotate_left 1
       ·intro ρ a
        obtain⟨h,b8,b9,bi,bj,bk,aL,bl⟩:=g.1.grow a;have d:=ae h;clear h;have ca:=kV a J;have cb:=kV a Q;have cY:=kV a ak;have c0:=kV a a6
        repeat(go_big_quiet_step((first|(go_at_call 121;with_reducible exact iR.Grow.calls (Y.1 _ (d.1 _)))|(go_at_call 121;with_reducible exact iR.Grow.calls (y.1 _ (d.1 _))))))
        apply ax;exact rfl
       intro Z M;have ac:=ae M;clear M;go_wp2
      rotate_left 1
      ·have ce:PLift (((decide (A.kind≠10)||u k k)&&t k k)=ay):=⟨by rw[al,E,n];rfl⟩
       go_roundw
       case rel=>exact⟨k+1,by go_num,by have:=L.1;omega,C.1.1.trans (ac.1.mono C.1.1.size),by rw[CS,C.1.2,ce.1];rfl⟩
       case measure=>have:=L.1;simp[intOf];omega
      all_goals
       have m:=ae (show jy N (f+1) i j=aj from b.1.trans (CV L.1 (by rw[al,E];first|rfl|(rw[n];rfl))));go_ret;exact⟨by rw[m.1];rfl,g.1.below.trans (ac.1.mono g.1.below.size)⟩
     ·obtain rfl:k=A.items.length:=iE
      have m:=ae (show jy N (f+1) i j=ay from b.1.trans C.1.2);clear b;go_wp2;go_ret;exact⟨by rw[m.1];rfl,g.1.below⟩
   all_goals
    have b:=ae (b.1.trans (gZ (λh=>r h.1)));have cw:(A.kind==10)=aj:=(by rw[iy];exact r);have al:decide (A.kind≠10)=ay:=iq r;clear r;have c1:=ae al
    as_aux_lemma=>
    go_wp2
    go_loopw [105] (λG wr=>∃k:Nat,G=.int .i64 k/\k<=A.items.length/\aU W.heap.size W wr/\(az k).all (λk=>(decide (A.kind≠10)||u k k)&&t k k)=ay) (λG _=>A.items.length - (intOf G).toNat)
    case atStart=>exact⟨0,rfl,aT _,Below.refl _ _,rfl⟩
    case round=>
     as_aux_lemma=>
     obtain⟨k,rfl,S,I,D⟩:=hrel;have g:=ae (o.1.mono I);have C:=ae (iJ I D);clear I D;by_cases s:k<A.items.length
     ·have cx:(k:Int)<(A.items.length:Int):=iE
      have F:k<B.items.length:=(by rw[<-bo.1.2];exact s);have c2:(k:Int)<(B.items.length:Int):=iE;obtain⟨cy,cz,rfl,J⟩:=(P.1 wr g.1.below).2.1.at s;obtain⟨cC,cD,rfl,Q⟩:=(P.1 wr g.1.below).2.2.2.at F;have y:=ae (λX c=>b0.1 k k X c s F);have L:=ae s;obtain⟨U,V⟩:=iC (A.items.getD k 0);obtain⟨aa,ab⟩:=iC (B.items.getD k 0);rw[V]at J y;rw[ab]at Q y;clear V ab s F
      as_aux_lemma=>
      cases n:t k k with
      |false=>
       rw[n]at y;have m:=ae (show jy N (f+1) i j=aj from b.1.trans (CV L.1 (by rw[al,n];rfl)));clear b
       go_upto_region 21 with fail
       refine Mix.mM (aF:=?_) iF iF iF iF iF ?_ ?_;rotate_left 1
       ·intro ρ a
        have d:=ae (λx:iR.Grow ρ=>g.1.mono (a.trans (x.h.mono a.size)));have b8:=λx:iR.Grow ρ=>(af (d.1 x).box 0).trans rfl
        have b9:=λx:iR.Grow ρ=>(af (d.1 x).box 1).trans rfl
        have bi:=λx:iR.Grow ρ=>(af (d.1 x).na 0).trans rfl
        have bj:=λx:iR.Grow ρ=>(af (d.1 x).na 3).trans rfl
        have bk:=λx:iR.Grow ρ=>(af (d.1 x).na 4).trans rfl
        have aL:=λx:iR.Grow ρ=>(af (d.1 x).nb 3).trans rfl
        have bl:=λx:iR.Grow ρ=>(af (d.1 x).nb 4).trans rfl
        have ca:=λx:iR.Grow ρ=>iU (a.trans (x.h.mono a.size)) J
        have cb:=λx:iR.Grow ρ=>iU (a.trans (x.h.mono a.size)) Q
        repeat(go_big_quiet_step((go_at_call 121;with_reducible exact iR.Grow.calls (y.1 _ (d.1 _)))))
        apply ax;exact rfl
       intro Z M;have ac:=ae M;clear M;go_wp2;go_ret;exact⟨by rw[m.1];rfl,g.1.below.trans (ac.1.mono g.1.below.size)⟩
      |true=>
       rw[n]at y;have ce:PLift (((decide (A.kind≠10)||u k k)&&t k k)=ay):=⟨by rw[al,n];rfl⟩
       go_upto_region 21 with fail
       refine Mix.mM (aF:=?_) iF iF iF iF iF ?_ ?_;rotate_left 1
       ·intro ρ a
        have d:=ae (λx:iR.Grow ρ=>g.1.mono (a.trans (x.h.mono a.size)));have b8:=λx:iR.Grow ρ=>(af (d.1 x).box 0).trans rfl
        have b9:=λx:iR.Grow ρ=>(af (d.1 x).box 1).trans rfl
        have bi:=λx:iR.Grow ρ=>(af (d.1 x).na 0).trans rfl
        have bj:=λx:iR.Grow ρ=>(af (d.1 x).na 3).trans rfl
        have bk:=λx:iR.Grow ρ=>(af (d.1 x).na 4).trans rfl
        have aL:=λx:iR.Grow ρ=>(af (d.1 x).nb 3).trans rfl
        have bl:=λx:iR.Grow ρ=>(af (d.1 x).nb 4).trans rfl
        have ca:=λx:iR.Grow ρ=>iU (a.trans (x.h.mono a.size)) J
        have cb:=λx:iR.Grow ρ=>iU (a.trans (x.h.mono a.size)) Q
        repeat(go_big_quiet_step((go_at_call 121;with_reducible exact iR.Grow.calls (y.1 _ (d.1 _)))))
        apply ax;exact rfl
       intro Z M;have ac:=ae M;clear M;go_wp2;go_roundw
       case rel=>exact⟨k+1,by go_num,by have:=L.1;omega,C.1.1.trans (ac.1.mono C.1.1.size),by rw[CS,C.1.2,ce.1];rfl⟩
       case measure=>have:=L.1;simp[intOf];omega
     ·obtain rfl:k=A.items.length:=iE
      have m:=ae (show jy N (f+1) i j=ay from b.1.trans C.1.2);clear b;go_wp2;go_ret;exact⟨by rw[m.1];rfl,g.1.below⟩
end Go.Proofs.YthcalnnipjflkaaGreatDoor
namespace Go.Proofs.YthcalnnipjflkaaGreatDoor
open Go.RowKit Go.Sort
open Go.Lib hiding intOf
def ja (base:Nat)(W W':ah):Prop:=W.heap.size<=W'.heap.size/\∀p,base<=p->p<W.heap.size->W'.heap[p]?=W.heap[p]?
structure lH (base blk off n g:Nat)(cb:Array aB)(cf:Int->Int->Int)(Rs:Nat->Prop)(S:Array Int->ah->Prop):Prop where
 enters:∀args w,(callFunc g args).run aA w=.ok (.enter g args) w
 row:∀d W,S d W->d.size=n/\∀i,i<n->W.cell? ⟨blk,off+i,ag⟩=au (.int .i64 d[i]!)/\W.frozen? ⟨blk,off+i,ag⟩=aj
 drew:∀d (W:ah),S d W->S d {W with drawn:=W.drawn+1}
 alloc:∀d W o,S d W->S d (W.alloc o)
 swap:∀d W i j,S d W->i<n->j<n->S (swp d i j) ((W.setCell ⟨blk,off+i,ag⟩ (.int .i64 d[j]!)).setCell ⟨blk,off+j,ag⟩ (.int .i64 d[i]!))
 box:∀d W p v,S d W->base<=p->Rs p->S d (W.setCell ⟨p,0,ag⟩ v)
 lo:∀d W,S d W->blk<base/\base<=W.heap.size
 cmp:∀d W i j,S d W->i<n->j<n->aK aA g (#[.int .i64 d[i]!,.int .i64 d[j]!]++cb) W λe W'=>e=.returned (.int .i64 (cf d[i]! d[j]!))/\S d W'/\ja base W W'
structure Ak (base blk off n g:Nat)(cb:Array aB)(cf:Int->Int->Int)(S:Array Int->ah->Prop):Prop where
 c:lH base blk off n g cb cf (λ_=>False) S
 ext:∃S':Nat->Array Int->ah->Prop,∀p,lH base blk off n g cb cf (λq=>q=p) (S' p)/\(∀d W o,S d W->W.heap.size=p->S' p d (W.alloc o))/\∀d W,S' p d W->S d W
def jD (base:Nat)(S:Array Int->ah->Prop)(d:Array Int)(W W':ah):Prop:=S d W->S d W'/\ja base W W'
theorem ja.refl (base:Nat)(W:ah):ja base W W:=⟨aP _,λ_ _ _=>rfl⟩
theorem ja.trans {base:Nat}{a b c:ah}(h:ja base a b)(k:ja base b c):ja base a c:=
 ⟨bK h.1 k.1,λp d e=>(k.2 p d (bz e h.1)).trans (h.2 p d e)⟩
theorem ja.set {base blk:Nat}(W:ah)(o:Nat)(v:aB)(h:blk<base):ja base W (W.setCell ⟨blk,o,ag⟩ v):=
 ⟨by simp[aO],λp b _=>by
  have a:¬blk=p:=iE
  simp[aO,aJ,a]⟩
theorem ja.drew (base:Nat)(W:ah):ja base W {W with drawn:=W.drawn+1}:=⟨aP _,λ_ _ _=>rfl⟩
theorem CX {W:ah}{blk off i j:Nat}{u:aB}(v:aB)(hi:∃x,W.cell? ⟨blk,off+i,ag⟩=au x)(a:W.cell? ⟨blk,off+j,ag⟩=au u):∃z,(W.setCell ⟨blk,off+i,ag⟩ v).cell? ⟨blk,off+j,ag⟩=au z:=by
 by_cases e:i=j
 ·subst e
  obtain⟨x,hx⟩:=hi;exact⟨v,World.cell?_setCell_same _ _ _ hx⟩
 ·exact⟨_,(World.cell?_setCell_other _ _ _ _ (by intro e';simp only[Addr.mk.injEq]at e';omega)).trans a⟩
theorem jD.refl {base:Nat}{S:Array Int->ah->Prop}{d:Array Int}(W:ah):jD base S d W W:=λh=>⟨h,ja.refl _ _⟩
theorem jD.trans {base:Nat}{S:Array Int->ah->Prop}{d:Array Int}{a b c:ah}(h:jD base S d a b)(k:jD base S d b c):jD base S d a c:=
 λe=>⟨(k (h e).1).1,(h e).2.trans (k (h e).1).2⟩
theorem lH.Fg {base blk off n g:Nat}{cb:Array aB}{cf:Int->Int->Int}{Rs:Nat->Prop}{S:Array Int->ah->Prop}(C:lH base blk off n g cb cf Rs S)(d:Array Int)(W:ah):jD base S d W {W with drawn:=W.drawn+1}:=
 λh=>⟨C.drew d W h,aP _,λ_ _ _=>rfl⟩
theorem jD.inh {base:Nat}{S:Array Int->ah->Prop}{d:Array Int}(ρ:ah):Nonempty (Mix.iZ (jD base S d) ρ):=⟨⟨ρ,jD.refl ρ⟩⟩
def J5 (l:List Oper)(n:Nat):Bool:=Region.noSelect l.toArray&&(Mix.kN .any l.toArray l.length 0 (Array.replicate l.length aj)==au (bF l.length ay).toArray)&&Mix.kS n l []&&(Region.ready .any l.toArray (bF l.length ay).toArray==[])
section
variable {base blk off n g:Nat} {cb:Array aB} {cf:Int->Int->Int} {Rs:Nat->Prop} {S:Array Int->ah->Prop}
theorem lH.reg (C:lH base blk off n g cb cf Rs S){d:Array Int}{W:ah}{Q:Exit->Act->ah->Prop}{id:Nat}{a:Act}{l:List Oper}{aF:Act}(b:J5 l a.tmps.size=ay)
  (hA:∀ρ:ah,jD base S d W ρ->wpQuiet aA l.toArray (λw'=>∃x:Mix.iZ (jD base S d) ρ,w'=x.w) (λa'=>a'=aF) l a)
  (hK:∀c:ah,jD base S d W c->Q .normal aF c):(Code.region id l.toArray ay).wp aA Q a W:=by
 simp only[J5,Bool.and_eq_true,beq_iff_eq]at b;exact Mix.qQ (jD base S d) jD.refl (λ_ _ _ h k=>h.trans k) (C.Fg d W) iF b.1.1.1 b.1.1.2 b.1.2 b.2 hA hK
theorem lH.lg (C:lH base blk off n g cb cf Rs S){d:Array Int}{W:ah}{i j:Nat}{x y:Int}(hS:S d W)(hi:i<n)(b:j<n)(hx:d[i]! =x)(hy:d[j]! =y)(ρ:ah)(c:jD base S d W ρ):
  Nonempty (Mix.iZ (jD base S d) ρ)/\(∀z:Mix.iZ (jD base S d) ρ,z.w.cell? ⟨blk,off+i,ag⟩=.some (.int .i64 x))/\(∀z:Mix.iZ (jD base S d) ρ,z.w.cell? ⟨blk,off+j,ag⟩=.some (.int .i64 y))/\
   ∀z:Mix.iZ (jD base S d) ρ,aK aA g (#[.int .i64 x,.int .i64 y]++cb) z.w λe W'=>e=.returned (.int .i64 (cf x y))/\jD base S d z.w W':=by
 subst hx hy;have a:∀z:Mix.iZ (jD base S d) ρ,S d z.w:=λz=>((c.trans z.h) hS).1
 exact⟨jD.inh ρ,λz=>((C.row d _ (a z)).2 i hi).1,λz=>((C.row d _ (a z)).2 j b).1,λz=>(C.cmp d z.w i j (a z) hi b).mono λ_ _ k=>⟨k.1,λ_=>k.2⟩⟩
theorem lH.qm (C:lH base blk off n g cb cf Rs S){d:Array Int}{W:ah}{i j:Nat}{x y:Int}(hS:S d W)(hi:i<n)(a:j<n)(hx:d[i]! =x)(hy:d[j]! =y):
  W.cell? ⟨blk,off+i,ag⟩=.some (.int .i64 x)/\W.cell? ⟨blk,off+j,ag⟩=.some (.int .i64 y)/\W.frozen? ⟨blk,off+i,ag⟩=aj/\W.frozen? ⟨blk,off+j,ag⟩=aj/\
   (∃u,(W.setCell ⟨blk,off+i,ag⟩ (.int .i64 y)).cell? ⟨blk,off+j,ag⟩=.some u)/\((i:Nat):Int).toNat=i/\((j:Nat):Int).toNat=j/\
   S (swp d i j) ((W.setCell ⟨blk,off+i,ag⟩ (.int .i64 y)).setCell ⟨blk,off+j,ag⟩ (.int .i64 x)).drew/\ja base W ((W.setCell ⟨blk,off+i,ag⟩ (.int .i64 y)).setCell ⟨blk,off+j,ag⟩ (.int .i64 x)).drew:=by
 subst hx hy;have r:=C.row d W hS;have b:=(C.lo d W hS).1;exact⟨(r.2 i hi).1,(r.2 j a).1,(r.2 i hi).2,(r.2 j a).2,CX _ ⟨_,(r.2 i hi).1⟩ (r.2 j a).1,aS _,aS _,C.drew _ _ (C.swap d W i j hS hi a),((ja.set W _ _ b).trans (ja.set _ _ _ b)).trans (ja.drew base _)⟩
end
theorem qo:Tryz.prog.follows Departure.mixedOrders=ay:=iF
theorem WB {base l off n g:Nat}{K:Array aB}{f:Int->Int->Int}{av:Nat->Prop}{S:Array Int->ah->Prop}(C:lH base l off n g K f av S)(cap a b:Nat)(d:Array Int)(w:ah)
  (hS:S d w)(T:a<=b)(U:b<=n)(hn:n<=1000000)(a4:off<=1000000000)(Y:n<=cap)(Z:cap<=1000000000):
  aK aA 138 #[.slice (au ⟨l,off,ag⟩) n cap,.int .i64 a,.int .i64 b,.func (.func g) #[] K] w λe w'=>e=.returned (.tuple #[])/\S (Sort.insertionSort (ltOf f) d a b) w'/\ja base w w':=by
 have a5:(n:Int)<=1000000:=iE
 have a6:(a:Int)<=1000000:=iE
 have a7:(b:Int)<=1000000:=iE
 have aw:=ae hS;have r:=ae C;have a8:=C.enters;have G:=ae (iJ T (iJ U (iJ hn (iJ Y Z))));have a9:(n:Int)<=(cap:Int):=iE
 have ba:(cap:Int)<=1000000000:=iE
 clear hS C T U hn Y Z;go_enter Tryz.func138,Tryz.ntmps138
 go_upto_region 1 with fail
 go_loopw [8] (λvi wr=>∃(i:Nat) (t:Array Int),vi=.int .i64 (i:Nat)/\a<i/\i<=b+1/\S t wr/\ja base w wr/\insOuter (ltOf f) a b i t=insOuter (ltOf f) a b (a+1) d) (λvi _=>b+1 - (intOf vi).toNat)
 case atStart=>exact⟨a+1,d,by go_num,iE,by have:=G.1.1;omega,aw.1,ja.refl _ _,rfl⟩
 case round=>
  obtain⟨i,t,rfl,L,M,aa,ab,ac⟩:=hrel;have m:=ae (iJ aa (iJ ab (iJ ac (iJ L M))));have bb:(i:Int)<=1000001:=by have:=G.1.2.1;have:=G.1.2.2.1;omega
  have bc:(0:Int)<=(i:Int):=iE
  clear aa ab ac;by_cases H:i<b
  ·have aD:(i:Int)<(b:Int):=iE
   have v:=ae H;clear H L M
   go_upto_region 4 with fail
   go_loopw [9] (λvj ad=>∃(j:Nat) (dj:Array Int),vj=.int .i64 (j:Nat)/\a<=j/\j<=i/\S dj ad/\ja base w ad/\insInner (ltOf f) a j dj=insInner (ltOf f) a i t) (λvj _=>(intOf vj).toNat)
   case atStart=>exact⟨i,t,rfl,by have:=m.1.2.2.2.1;omega,aP _,m.1.1,m.1.2.1,rfl⟩
   case round=>
    obtain⟨j,dj,rfl,N,ai,ak,al,am⟩:=hrel;have o:=ae (iJ ak (iJ al (iJ am (iJ N ai))));have O:j<n:=(by have:=G.1.2.1;have:=v.1;omega);have bd:(j:Int)<(n:Int):=iE;have be:(0:Int)<=(j:Int):=iE;have bf:(j:Int)<=1000000:=iE;clear ak al am ai;by_cases P:a<j
    ·have A:(a:Int)<(j:Int):=iE
     have aE:decide ((j:Int)>(a:Int))=ay:=iq A;have aG:decide ((a:Int)<(j:Int))=ay:=iq A;obtain⟨q,an⟩:∃q,q+1=j:=⟨j - 1,iE⟩;have bg:(j:Int) - 1=(q:Int):=iE;have bh:(q:Int)<(n:Int):=iE;have bi:(0:Int)<=(q:Int):=iE;have ao:q<n:=iE;obtain⟨x,hx⟩:=iC (dj[j]! );obtain⟨y,hy⟩:=iC (dj[q]! );have c:=ae (iJ hx (iJ hy (iJ an (iJ O (iJ ao P)))));clear an P hx hy N O ao
     go_upto_region 4 with fail
     have I:PLift (∀X,jD base S dj wr X->X.cell? ⟨l,off+j,ag⟩=au (.int .i64 x)/\X.cell? ⟨l,off+q,ag⟩=au (.int .i64 y)/\S dj X):=⟨λX aL=>by have s:=aL o.1.1;have B:=r.1.row dj X s.1;have ap:=(B.2 j c.1.2.2.2.1).1;have aq:=(B.2 q c.1.2.2.2.2.1).1;rw[c.1.1]at ap;rw[c.1.2.1]at aq;exact⟨ap,aq,s.1⟩⟩
     refine Mix.qQ (aF:=?_) (jD base S dj) jD.refl (λ_ _ _ h k=>h.trans k) (r.1.Fg dj wr) iF iF iF iF iF ?_ ?_;rotate_left 1
     ·intro ρ J
      haveI:Nonempty (Mix.iZ (jD base S dj) ρ):=⟨⟨ρ,jD.refl ρ⟩⟩;have bj:=λz:Mix.iZ (jD base S dj) ρ=>(I.1 z.w (J.trans z.h)).1
      have bk:=λz:Mix.iZ (jD base S dj) ρ=>(I.1 z.w (J.trans z.h)).2.1
      have aM:=ae (λz:Mix.iZ (jD base S dj) ρ=>show aK aA g (#[.int .i64 x,.int .i64 y]++K) z.w (λe W'=>e=.returned (.int .i64 (f x y))/\jD base S dj z.w W')from by have h:=r.1.cmp dj z.w j q (I.1 z.w (J.trans z.h)).2.2 c.1.2.2.2.1 c.1.2.2.2.2.1;rw[c.1.1,c.1.2.1]at h;exact h.mono λ_ _ k=>⟨k.1,λ_=>k.2⟩)
      repeat(go_big_quiet_step((go_at_fn g;exact Mix.iZ.calls (λ_ _ _ h k=>h.trans k) (aM.1 _))))
      apply ax;exact rfl
     intro W D;have p:=ae (D o.1.1);clear D I;have E:=r.1.row dj W p.1.1;have ca:=(E.2 j c.1.2.2.2.1).1;have Q:=(E.2 q c.1.2.2.2.2.1).1;have aR:=(E.2 j c.1.2.2.2.1).2;have a0:=(E.2 q c.1.2.2.2.2.1).2;rw[c.1.1]at ca;rw[c.1.2.1]at Q;obtain⟨u,a1⟩:=CX (.int .i64 y) ⟨_,ca⟩ Q;clear E;by_cases hv:f x y<0
     ·have hd:decide (f x y<0)=ay:=iq hv
      have a2:PLift (insInner (ltOf f) a q (swp dj j q)=insInner (ltOf f) a i t):=⟨by
       have s:=insInner_go (ltOf f) a j dj c.1.2.2.2.2.2 (by rw[show j - 1=q by have:=c.1.2.2.1;omega,c.1.1,c.1.2.1];exact hd)
       rw[show j - 1=q by have:=c.1.2.2.1;omega]at s;rw[<-s];exact o.1.2.2.1⟩
      have bl:((j:Nat):Int).toNat=j:=aS j;have bm:((q:Nat):Int).toNat=q:=aS q
      go_upto_region 6 with fail
      have a3:Tryz.prog.follows Departure.mixedOrders=ay:=iF
      go_big_region_o
      clear a3
      have R:PLift (S (swp dj j q) ((W.setCell ⟨l,off+j,ag⟩ (.int .i64 y)).setCell ⟨l,off+q,ag⟩ (.int .i64 x)).drew/\ja base W ((W.setCell ⟨l,off+j,ag⟩ (.int .i64 y)).setCell ⟨l,off+q,ag⟩ (.int .i64 x)).drew):=⟨by have s:=r.1.swap dj W j q p.1.1 c.1.2.2.2.1 c.1.2.2.2.2.1;rw[c.1.1,c.1.2.1]at s;have B:=(r.1.lo dj W p.1.1).1;exact⟨r.1.drew _ _ s,((ja.set W _ _ B).trans (ja.set _ _ _ B)).trans (ja.drew base _)⟩⟩
      obtain⟨V,ar⟩:=iC (((W.setCell ⟨l,off+j,ag⟩ (.int .i64 y)).setCell ⟨l,off+q,ag⟩ (.int .i64 x)).drew);rw[ar]at R⊢;clear ar ca Q a1 aR a0;go_wp2;go_roundw
      case rel=>exact⟨q,swp dj j q,by first|rfl|go_num,by have:=c.1.2.2.1;have:=c.1.2.2.2.2.2;omega,by have:=c.1.2.2.1;have:=o.1.2.2.2.2;omega,R.1.1,(o.1.2.1.trans p.1.2).trans R.1.2,a2.1⟩
      case measure=>have:=c.1.2.2.1;simp[intOf];omega
     ·have hd:decide (f x y<0)=aj:=iw hv
      have F:PLift (insOuter (ltOf f) a b (i+1) dj=insOuter (ltOf f) a b (a+1) d):=⟨by rw[<-m.1.2.2.1,insOuter_go _ _ _ _ _ v.1,<-o.1.2.2.1,insInner_stop _ _ _ _ (.inr (by rw[show j - 1=q by have:=c.1.2.2.1;omega,c.1.1,c.1.2.1];exact hd))]⟩
      go_wp2;go_roundw
      case rel=>exact⟨i+1,dj,by go_num,by have:=m.1.2.2.2.1;omega,by have:=v.1;omega,p.1.1,o.1.2.1.trans p.1.2,F.1⟩
      case measure=>have:=v.1;simp[intOf];omega
    ·have A:¬(a:Int)<(j:Int):=iE
     have aE:decide ((j:Int)>(a:Int))=aj:=iw A;have aG:decide ((a:Int)<(j:Int))=aj:=iw A
     have F:PLift (insOuter (ltOf f) a b (i+1) dj=insOuter (ltOf f) a b (a+1) d):=⟨by rw[<-m.1.2.2.1,insOuter_go _ _ _ _ _ v.1,<-o.1.2.2.1,insInner_stop _ _ _ _ (.inl iE)]⟩
     clear P N O
     go_upto_region 4 with fail
     refine Mix.qQ (aF:=?_) (jD base S dj) jD.refl (λ_ _ _ h k=>h.trans k) (r.1.Fg dj wr) iF iF iF iF iF ?_ ?_;rotate_left 1
     ·intro ρ J
      haveI:Nonempty (Mix.iZ (jD base S dj) ρ):=⟨⟨ρ,jD.refl ρ⟩⟩
      repeat(go_big_quiet_step(fail))
      apply ax;exact rfl
     intro W D;have p:=ae (D o.1.1);clear D;go_wp2;go_roundw
     case rel=>exact⟨i+1,dj,by go_num,by have:=m.1.2.2.2.1;omega,by have:=v.1;omega,p.1.1,o.1.2.1.trans p.1.2,F.1⟩
     case measure=>have:=v.1;simp[intOf];omega
  ·have aD:¬(i:Int)<(b:Int):=iE
   have F:PLift (insertionSort (ltOf f) d a b=t):=⟨by unfold insertionSort;rw[<-m.1.2.2.1,insOuter_stop _ _ _ _ _ H]⟩
   clear H L M;go_wp2;go_end0;exact⟨rfl,by rw[F.1];exact m.1.1,m.1.2.1⟩
section
variable {lt:Int->Int->Bool} {hi first root:Nat} {d:Array Int}
theorem sd_end (h:¬2*root+1<hi):siftDown lt hi first root d=d:=by rw[siftDown,dif_pos iE]
theorem WC (h:2*root+1<hi/\2*root+2<hi/\lt d[first+(2*root+1)]! d[first+(2*root+2)]! =ay)(a:lt d[first+root]! d[first+(2*root+2)]! =ay):
  siftDown lt hi first root d=siftDown lt hi first (2*root+2) (swp d (first+root) (first+(2*root+2))):=by
 conv=>lhs;rw[siftDown]
 rw[dif_neg iE];have e:first+(2*root+1)+1=first+(2*root+2):=iE
 have b:2*root+1+1<hi:=iE
 simp only[e,h.2.2,b,a,decide_true,bH,if_true,bI,aX,if_false];rw[dif_pos trivial]
theorem WE (h:2*root+1<hi/\2*root+2<hi/\lt d[first+(2*root+1)]! d[first+(2*root+2)]! =ay)(a:lt d[first+root]! d[first+(2*root+2)]! =aj):
  siftDown lt hi first root d=d:=by
 rw[siftDown,dif_neg iE];have e:first+(2*root+1)+1=first+(2*root+2):=iE
 have b:2*root+1+1<hi:=iE
 simp only[e,h.2.2,b,a,decide_true,bH,if_true,bG]
theorem Kw (h:2*root+1<hi/\(¬2*root+2<hi\/lt d[first+(2*root+1)]! d[first+(2*root+2)]! =aj)):(decide (2*root+1+1<hi)&&lt d[first+(2*root+1)]! d[first+(2*root+1)+1]!)=aj:=by
 have e:first+(2*root+1)+1=first+(2*root+2):=iE
 rcases h.2 with a|a
 ·have:¬2*root+1+1<hi:=iE
  simp[this]
 ·rw[e,a,Bool.and_false]
theorem Ky (h:2*root+1<hi/\(¬2*root+2<hi\/lt d[first+(2*root+1)]! d[first+(2*root+2)]! =aj))(a:lt d[first+root]! d[first+(2*root+1)]! =ay):
  siftDown lt hi first root d=siftDown lt hi first (2*root+1) (swp d (first+root) (first+(2*root+1))):=by
 conv=>lhs;rw[siftDown]
 rw[dif_neg iE,Kw h];simp only[a,aX,if_false,bI]
theorem Kz (h:2*root+1<hi/\(¬2*root+2<hi\/lt d[first+(2*root+1)]! d[first+(2*root+2)]! =aj))(a:lt d[first+root]! d[first+(2*root+1)]! =aj):
  siftDown lt hi first root d=d:=by
 rw[siftDown,dif_neg iE,Kw h];simp only[a,aX,if_false,bG,if_true]
end
theorem WG {base M off n g:Nat}{ao:Array aB}{b:Int->Int->Int}{bc:Nat->Prop}{S:Array Int->ah->Prop}(C:lH base M off n g ao b bc S)(cap lo hi first:Nat)(d:Array Int)(w:ah)(hS:S d w)(ap:lo<=1000000)(aq:first+hi<=n)(hn:n<=1000000)(bv:off<=1000000000)(bd:n<=cap)(be:cap<=1000000000):
  aK aA 161 #[.slice (au ⟨M,off,ag⟩) n cap,.int .i64 lo,.int .i64 hi,.int .i64 first,.func (.func g) #[] ao] w λe w'=>e=.returned (.tuple #[])/\S (siftDown (ltOf b) hi first lo d) w'/\ja base w w':=by
 have bw:(n:Int)<=1000000:=iE
 have s:=ae C;have bx:=C.enters;have bA:(n:Int)<=(cap:Int):=iE
 have bB:(cap:Int)<=1000000000:=iE
 have bf:=ae hS;have F:=ae (iJ aq (iJ hn ap));have bE:(first:Int)<=1000000:=iE
 have bL:(0:Int)<=(first:Int):=iE
 have bM:(hi:Int)<=1000000:=iE
 clear hS C aq hn bd be ap;go_enter Tryz.func161,Tryz.ntmps161
 go_upto_region 1 with fail
 go_loopw [10] (λP wr=>∃(root:Nat) (a:Array Int),P=.int .i64 (root:Nat)/\root<=1000000/\S a wr/\ja base w wr/\siftDown (ltOf b) hi first root a=siftDown (ltOf b) hi first lo d) (λP _=>hi - (intOf P).toNat)
 case atStart=>exact⟨lo,d,rfl,F.1.2.2,bf.1,ja.refl _ _,rfl⟩
 case round=>
  obtain⟨root,a,rfl,ar,av,aw,aD⟩:=hrel;have p:=ae (iJ av (iJ aw (iJ aD ar)));have bN:(root:Int)<=1000000:=iE
  have bO:(0:Int)<=(root:Int):=iE
  obtain⟨c,G⟩:=iC (2*root+1);have bR:2*(root:Int)+1=(c:Int):=iE
  have bS:(c:Int)<=2000001:=iE
  have bX:(0:Int)<=(c:Int):=iE
  clear av aw aD ar;by_cases N:c<hi
  case neg=>have bg:(hi:Int)<=(c:Int):=iE;have H:PLift (siftDown (ltOf b) hi first lo d=a):=⟨by rw[<-p.1.2.2.1];exact sd_end iE⟩;clear N G;go_wp2;go_end0;exact⟨rfl,by rw[H.1];exact p.1.1,p.1.2.1⟩
  have bg:¬(hi:Int)<=(c:Int):=iE
  have q:=ae (show first+hi<=n/\c<hi/\2*root+1=c/\hi<=1000000 from⟨F.1.1,N,G,by have:=F.1.1;have:=F.1.2.1;omega⟩);obtain⟨j,Q⟩:=iC (c+1);have b0:(c:Int)+1=(j:Int):=iE
  have b1:(j:Int)<=2000002:=iE
  have b2:(0:Int)<=(j:Int):=iE
  by_cases R:j<hi
  case' neg=>
   have T:¬(j:Int)<(hi:Int):=iE;have bh:decide ((j:Int)<(hi:Int))=aj:=iw T;have m:=ae (show c=2*root+1 from G.symm);have r:PLift (2*root+1<hi/\(¬2*root+2<hi\/ltOf b a[first+(2*root+1)]! a[first+(2*root+2)]! =aj)):=⟨⟨iE,.inl iE⟩⟩;clear G Q R N
   go_upto_region 3 with fail
   refine s.1.reg (aF:=?_) (d:=a) iF ?_ ?_;rotate_left 1
   ·intro ρ v
    haveI:=jD.inh (base:=base) (S:=S) (d:=a) ρ
    repeat(go_big_quiet_step(fail))
    apply ax;exact rfl
   intro U A;have t:=ae (A p.1.1);clear A;have O:=ae t.1.2
   obtain⟨W,X,q⟩:PLift (ltOf b a[first+root]! a[first+c]! =ay->siftDown (ltOf b) hi first root a=siftDown (ltOf b) hi first c (swp a (first+root) (first+c)))×PLift (ltOf b a[first+root]! a[first+c]! =aj->siftDown (ltOf b) hi first root a=a)×PLift (first+hi<=n/\c<hi/\root<c/\hi<=1000000):=
    ⟨⟨λl=>by rw[m.1]at l⊢;exact Ky r.1 l⟩,⟨λl=>by rw[m.1]at l;exact Kz r.1 l⟩,⟨by have:=q.1;have:=m.1;have:=r.1;omega⟩⟩
   obtain⟨o,I⟩:=iD c;subst I
  case' pos=>
   have T:(j:Int)<(hi:Int):=iE;have bh:decide ((j:Int)<(hi:Int))=ay:=iq T;obtain⟨B,aE⟩:=iC (first+c)
   obtain⟨D,aG⟩:=iC (first+j)
   have aL:(first:Int)+(c:Int)=(B:Int):=iE;have aM:(B:Int)+1=(D:Int):=iE;have aR:B<n:=(by have:=F.1.1;omega);have a0:D<n:=(by have:=F.1.1;omega);have a1:(B:Int)<(n:Int):=iE;have a2:(D:Int)<(n:Int):=iE;have a3:(0:Int)<=(B:Int):=iE;have a4:(0:Int)<=(D:Int):=iE;obtain⟨Y,a5⟩:=iC (a[B]! );obtain⟨Z,a6⟩:=iC (a[D]! );have f:=ae (iJ a5 (iJ a6 (iJ aE (iJ aG (iJ aR (iJ a0 (iJ G (iJ Q R))))))));clear a5 a6 aE aG aR a0 G Q R N;by_cases a7:b Y Z<0
   case' neg=>
    have aa:decide (b Y Z<0)=aj:=iw a7
    go_upto_region 3 with fail
    have ab:=ae (s.1.lg p.1.1 f.1.2.2.2.2.1 f.1.2.2.2.2.2.1 f.1.1 f.1.2.1);refine s.1.reg (aF:=?_) (d:=a) iF ?_ ?_;rotate_left 1
    ·intro ρ v
     obtain⟨ac,ad,ai,h⟩:=ab.1 ρ v;have E:=ae h;clear h
     repeat(go_big_quiet_step((go_at_fn g;exact Mix.iZ.calls (λ_ _ _ h k=>h.trans k) (E.1 _))))
     apply ax;exact rfl
    intro U A;have t:=ae (A p.1.1);clear A;have O:=ae t.1.2;clear aL aM a1 a2 a3 a4;have m:=ae (show c=2*root+1 from f.1.2.2.2.2.2.2.1.symm)
    have r:PLift (2*root+1<hi/\(¬2*root+2<hi\/ltOf b a[first+(2*root+1)]! a[first+(2*root+2)]! =aj)):=⟨by have a8:=f.1.2.2.2.2.2.2.1;have bi:=f.1.2.2.2.2.2.2.2.1;refine⟨by have:=q.1;omega,.inr ?_⟩;rw[show 2*root+2=j by omega,a8,f.1.2.2.1,f.1.2.2.2.1,f.1.1,f.1.2.1];exact aa⟩
    obtain⟨W,X,q⟩:PLift (ltOf b a[first+root]! a[first+c]! =ay->siftDown (ltOf b) hi first root a=siftDown (ltOf b) hi first c (swp a (first+root) (first+c)))×PLift (ltOf b a[first+root]! a[first+c]! =aj->siftDown (ltOf b) hi first root a=a)×PLift (first+hi<=n/\c<hi/\root<c/\hi<=1000000):=
     ⟨⟨λl=>by rw[m.1]at l⊢;exact Ky r.1 l⟩,⟨λl=>by rw[m.1]at l;exact Kz r.1 l⟩,⟨by have:=q.1;have:=m.1;have:=r.1;omega⟩⟩
    obtain⟨o,I⟩:=iD c;subst I
   case' pos=>
    have aa:decide (b Y Z<0)=ay:=iq a7
    go_upto_region 3 with fail
    have ab:=ae (s.1.lg p.1.1 f.1.2.2.2.2.1 f.1.2.2.2.2.2.1 f.1.1 f.1.2.1);refine s.1.reg (aF:=?_) (d:=a) iF ?_ ?_;rotate_left 1
    ·intro ρ v
     obtain⟨ac,ad,ai,h⟩:=ab.1 ρ v;have E:=ae h;clear h
     repeat(go_big_quiet_step((go_at_fn g;exact Mix.iZ.calls (λ_ _ _ h k=>h.trans k) (E.1 _))))
     apply ax;exact rfl
    intro U A;have t:=ae (A p.1.1);clear A;have O:=ae t.1.2;clear aL aM a1 a2 a3 a4;have m:=ae (show j=2*root+2 by have a8:=f.1.2.2.2.2.2.2.1;have bi:=f.1.2.2.2.2.2.2.2.1;omega)
    have r:PLift (2*root+1<hi/\2*root+2<hi/\ltOf b a[first+(2*root+1)]! a[first+(2*root+2)]! =ay):=⟨by refine⟨by have:=q.1;omega,by have:=m.1;have:=f.1.2.2.2.2.2.2.2.2;omega,?_⟩;rw[<-m.1,f.1.2.2.2.2.2.2.1,f.1.2.2.1,f.1.2.2.2.1,f.1.1,f.1.2.1];exact aa⟩
    obtain⟨W,X,q⟩:PLift (ltOf b a[first+root]! a[first+j]! =ay->siftDown (ltOf b) hi first root a=siftDown (ltOf b) hi first j (swp a (first+root) (first+j)))×PLift (ltOf b a[first+root]! a[first+j]! =aj->siftDown (ltOf b) hi first root a=a)×PLift (first+hi<=n/\j<hi/\root<j/\hi<=1000000):=
     ⟨⟨λl=>by rw[m.1]at l⊢;exact WC r.1 l⟩,⟨λl=>by rw[m.1]at l;exact WE r.1 l⟩,⟨by have:=q.1;have:=m.1;have:=r.1;omega⟩⟩
    obtain⟨o,I⟩:=iD j;subst I
  all_goals
   obtain⟨x,hx⟩:=iC (a[first+root]! );obtain⟨y,hy⟩:=iC (a[first+o]! );obtain⟨pr,ak⟩:=iC (first+root)
   obtain⟨u,al⟩:=iC (first+o)
   have b3:(first:Int)+(root:Int)=(pr:Int):=iE;have b4:(first:Int)+(o:Int)=(u:Int):=iE;have a9:pr<n:=(by have:=q.1.1;omega);have ba:u<n:=(by have:=q.1.1;omega);have b5:(pr:Int)<(n:Int):=iE;have b6:(u:Int)<(n:Int):=iE;have b7:(0:Int)<=(pr:Int):=iE;have b8:(0:Int)<=(u:Int):=iE;rw[ak]at hx;rw[al]at hy;have i:=ae (iJ hx (iJ hy (iJ ak (iJ al (iJ a9 ba)))));clear hx hy ak al a9 ba;by_cases hv:b x y<0
   ·have hd:decide (b x y<0)=ay:=iq hv
    have bj:(!decide (b x y<0))=aj:=(by rw[hd];rfl);have bk:¬0<=b x y:=iE
    go_upto_region 5 with fail
    have am:=ae (s.1.lg t.1.1 i.1.2.2.2.2.1 i.1.2.2.2.2.2 i.1.1 i.1.2.1);refine s.1.reg (aF:=?_) (d:=a) iF ?_ ?_;rotate_left 1
    ·intro ρ v
     obtain⟨ac,ad,ai,h⟩:=am.1 ρ v;have E:=ae h;clear h
     repeat(go_big_quiet_step((go_at_fn g;exact Mix.iZ.calls (λ_ _ _ h k=>h.trans k) (E.1 _))))
     apply ax;exact rfl
    intro V J;have K:=ae (J t.1.1);clear J
    have H:PLift (siftDown (ltOf b) hi first o (swp a pr u)=siftDown (ltOf b) hi first lo d):=⟨by rw[<-p.1.2.2.1];have h:=W.1 (by rw[i.1.2.2.1,i.1.2.2.2.1,i.1.1,i.1.2.1];exact hd);rw[i.1.2.2.1,i.1.2.2.2.1]at h;exact h.symm⟩
    obtain⟨bl,bm,bo,bp,⟨b9,bq⟩,br,bs,L⟩:=s.1.qm K.1.1 i.1.2.2.2.2.1 i.1.2.2.2.2.2 i.1.1 i.1.2.1;have an:=ae L;clear L
    go_upto_region 6 with fail
    have bt:=qo
    go_big_region_o
    clear bt;obtain⟨bb,L⟩:=iC (((V.setCell ⟨M,off+pr,ag⟩ (.int .i64 y)).setCell ⟨M,off+u,ag⟩ (.int .i64 x)).drew);rw[L]at an⊢;clear L bl bm bq bo bp br bs;go_wp2;go_roundw
    case rel=>exact⟨o,swp a pr u,rfl,by have:=q.1.2;omega,an.1.1,((p.1.2.1.trans O.1).trans K.1.2).trans an.1.2,H.1⟩
    case measure=>have:=q.1.2;simp[intOf];omega
   ·have hd:decide (b x y<0)=aj:=iw hv
    have bj:(!decide (b x y<0))=ay:=(by rw[hd];rfl);have bk:0<=b x y:=iE
    go_upto_region 5 with fail
    have am:=ae (s.1.lg t.1.1 i.1.2.2.2.2.1 i.1.2.2.2.2.2 i.1.1 i.1.2.1);refine s.1.reg (aF:=?_) (d:=a) iF ?_ ?_;rotate_left 1
    ·intro ρ v
     obtain⟨ac,ad,ai,h⟩:=am.1 ρ v;have E:=ae h;clear h
     repeat(go_big_quiet_step((go_at_fn g;exact Mix.iZ.calls (λ_ _ _ h k=>h.trans k) (E.1 _))))
     apply ax;exact rfl
    intro V J;have K:=ae (J t.1.1);clear J
    have H:PLift (siftDown (ltOf b) hi first lo d=a):=⟨by rw[<-p.1.2.2.1];exact X.1 (by rw[i.1.2.2.1,i.1.2.2.2.1,i.1.1,i.1.2.1];exact hd)⟩
    go_wp2
    (try simp only[Exit.inBlock,Exit.then])
    refine bodyPost_ret (results_none rfl _ _ _) rfl ?_;exact⟨rfl,by rw[H.1];exact K.1.1,(p.1.2.1.trans O.1).trans K.1.2⟩
theorem WH (i j:Nat)(d:Array Int)(h:i<j):reverseLoop i j d=reverseLoop (i+1) (j - 1) (swp d i j):=by
 conv=>lhs;rw[reverseLoop]
 rw[gY h]
theorem WI (i j:Nat)(d:Array Int)(h:¬i<j):reverseLoop i j d=d:=by rw[reverseLoop,gZ h]
theorem WJ {base m off n g:Nat}{u:Array aB}{G:Int->Int->Int}{H:Nat->Prop}{S:Array Int->ah->Prop}(C:lH base m off n g u G H S)(cap a b:Nat)(d:Array Int)(w:ah)(hS:S d w)(v:a<b)(z:b<=n)(hn:n<=1000000)(Z:off<=1000000000)(I:n<=cap)(J:cap<=1000000000):
  aK aA 142 #[.slice (au ⟨m,off,ag⟩) n cap,.int .i64 a,.int .i64 b,.func (.func g) #[] u] w λe w'=>e=.returned (.tuple #[])/\S (reverseRange d a b) w'/\ja base w w':=by
 have aa:(n:Int)<=1000000:=iE
 have K:=ae C;have ab:=C.enters;have ac:(n:Int)<=(cap:Int):=iE
 have ad:(cap:Int)<=1000000000:=iE
 have L:=ae hS;have h:=ae (iJ z (iJ hn v));have ai:(a:Int)<=1000000:=iE
 have ak:(b:Int)<=1000000:=iE
 have al:(1:Int)<=(b:Int):=iE
 clear hS C z hn I J v;go_enter Tryz.func142,Tryz.ntmps142
 go_upto_region 2 with fail
 go_loopw [8,9] (λq r wr=>∃(i j:Nat) (c:Array Int),q=.int .i64 (i:Nat)/\r=.int .i64 (j:Nat)/\j<n/\S c wr/\ja base w wr/\reverseLoop i j c=reverseLoop a (b - 1) d/\i<=1000000) (λq r _=>(intOf r).toNat - (intOf q).toNat)
 case atStart=>exact⟨a,b - 1,d,rfl,by first|rfl|(congr 1;have:=h.1.2.2;omega),by have:=h.1.1;have:=h.1.2.2;omega,L.1,ja.refl _ _,rfl,by have:=h.1.1;have:=h.1.2.1;have:=h.1.2.2;omega⟩
 case round=>
  obtain⟨i,j,c,rfl,rfl,o,A,B,D,M⟩:=hrel;have k:=ae (iJ A (iJ B (iJ D o)));have am:(i:Int)<=1000000:=iE
  have an:(0:Int)<=(i:Int):=iE
  have ao:(j:Int)<=1000000:=by have:=h.1.2.1;omega
  have ap:(0:Int)<=(j:Int):=iE
  clear A B D M;by_cases p:i<j
  ·have N:(i:Int)<(j:Int):=iE
   have E:i<n:=iE;have aq:(i:Int)<(n:Int):=iE;have ar:(j:Int)<(n:Int):=iE;obtain⟨x,hx⟩:=iC (c[i]! );obtain⟨y,hy⟩:=iC (c[j]! );have f:=ae (iJ hx (iJ hy (iJ E (iJ o p))));clear hx hy E o p;obtain⟨O,P,Q,R,⟨av,T⟩,U,W,l⟩:=K.1.qm k.1.1 f.1.2.2.1 f.1.2.2.2.1 f.1.1 f.1.2.1;have s:=ae l;clear l
   go_upto_region 3 with fail
   have X:=qo
   go_big_region_o
   clear X;obtain⟨V,l⟩:=iC (((wr.setCell ⟨m,off+i,ag⟩ (.int .i64 y)).setCell ⟨m,off+j,ag⟩ (.int .i64 x)).drew);rw[l]at s⊢;clear l O P T Q R U W;obtain⟨j',F⟩:=iC (j - 1);have aw:(j:Int) - 1=(j':Int):=(by have:=f.1.2.2.2.2;omega);have t:=ae F;clear F;go_wp2;go_roundw
   case rel=>exact⟨i+1,j',swp c i j,by go_num,by first|rfl|go_num,by have:=t.1;have:=f.1.2.2.2.1;omega,s.1.1,k.1.2.1.trans s.1.2,by rw[<-k.1.2.2.1,WH i j c f.1.2.2.2.2,t.1],by have:=f.1.2.2.1;have:=h.1.2.1;omega⟩
   case measure=>have:=t.1;have:=f.1.2.2.2.2;simp[intOf];omega
  ·have N:¬(i:Int)<(j:Int):=iE
   have Y:=ae (show reverseRange d a b=c by unfold reverseRange;rw[<-k.1.2.2.1,WI i j c p]);clear p o;go_wp2;go_end0;exact⟨rfl,by rw[Y.1];exact k.1.1,k.1.2.1⟩
theorem WL {base B off n g:Nat}{K:Array aB}{c:Int->Int->Int}{R:Nat->Prop}{S:Array Int->ah->Prop}(C:lH base B off n g K c R S)(cap a b:Nat)(d:Array Int)(w:ah)(hS:S d w)(T:a<b)(U:b<=n)(hn:n<=1000000)(X:off<=1000000000)(L:n<=cap)(M:cap<=1000000000):
  aK aA 139 #[.slice (au ⟨B,off,ag⟩) n cap,.int .i64 a,.int .i64 b,.func (.func g) #[] K] w λe w'=>e=.returned (.tuple #[])/\S (heapSort (ltOf c) d a b) w'/\ja base w w':=by
 have N:=ae (λ(W:ah) (lo hi:Nat) (f:Array Int) (hS:S f W) (Y:lo<=1000000) (Z:a+hi<=n)=>WG C cap lo hi a f W hS Y Z hn X L M);have ar:(n:Int)<=1000000:=iE
 have aa:=ae C;have av:=C.enters;have aw:(n:Int)<=(cap:Int):=iE
 have aD:(cap:Int)<=1000000000:=iE
 have ab:=ae hS;obtain⟨m,hm⟩:=iC (b - a);have aE:(b:Int) - (a:Int)=(m:Int):=iE
 obtain⟨h,G⟩:=iC ((m - 1)/2)
 have aF:Int.tdiv ((m:Int) - 1) 2=(h:Int):=by
  have:((m:Int) - 1)=((m - 1:Nat):Int):=iE
  rw[this,<-G]
  rfl
 have s:=ae (show heapSort (ltOf c) d a b=heapPop (ltOf c) a m (heapBuild (ltOf c) m a (h+1) d) by unfold heapSort;rw[hm,G]);have p:=ae (show a+m<=n/\n<=1000000/\1<=m/\h<m from⟨iE,hn,iE,iE⟩);have aG:(a:Int)<=1000000:=iE
 have aL:(0:Int)<=(a:Int):=iE
 have aM:(b:Int)<=1000000:=iE
 have aR:(m:Int)<=1000000:=iE
 have a0:(1:Int)<=(m:Int):=iE
 have a1:(h:Int)<=1000000:=iE
 have a2:(0:Int)<=(h:Int):=iE
 clear hS C U hn L M T hm G;go_enter Tryz.func139,Tryz.ntmps139
 go_upto_region 4 with fail
 go_loopw [11] (λH wr=>∃(k:Nat) (f:Array Int),H=.int .i64 ((k:Int) - 1)/\k<=m/\S f wr/\ja base w wr/\heapBuild (ltOf c) m a k f=heapBuild (ltOf c) m a (h+1) d) (λH _=>(intOf H+1).toNat)
 case atStart=>exact⟨h+1,d,by go_num,p.1.2.2.2,ab.1,ja.refl _ _,rfl⟩
 case round=>
  obtain⟨k,f,rfl,l,t,D,i⟩:=hrel;cases k with
  |zero=>
   have a3:¬(0:Int)<=((0:Nat):Int) - 1:=iE;have o:=ae (iJ t (iJ D (show f=heapBuild (ltOf c) m a (h+1) d from i)));clear t D i l
   go_upto_region 8 with fail
   go_loopw [12] (λI O=>∃(k:Nat) (dj:Array Int),I=.int .i64 ((k:Int) - 1)/\k<=m/\S dj O/\ja base w O/\heapPop (ltOf c) a k dj=heapSort (ltOf c) d a b) (λI _=>(intOf I+1).toNat)
   case atStart=>exact⟨m,f,by go_num,aP _,o.1.1,o.1.2.1,by rw[s.1,o.1.2.2]⟩
   case round=>
    obtain⟨k,dj,rfl,l,E,F,i⟩:=hrel;cases k with
    |zero=>have a4:¬(0:Int)<=((0:Nat):Int) - 1:=iE;have j:=ae (iJ E (iJ F (show dj=heapSort (ltOf c) d a b from i)));clear E F i l;go_wp2;go_end0;exact⟨rfl,by rw[<-j.1.2.2];exact j.1.1,j.1.2.1⟩
    |succ q=>
     have e1:((q+1:Nat):Int) - 1=(q:Int):=iE;rw[e1];have j:=ae (iJ E (iJ F (iJ (show heapPop (ltOf c) a q (siftDown (ltOf c) q a 0 (swp dj a (a+q)))=heapSort (ltOf c) d a b from i) l)));have ac:(q:Int)<=1000000:=iE;have ad:(0:Int)<=(q:Int):=iE;obtain⟨r,hr⟩:=iC (a+q);have a5:(a:Int)+(q:Int)=(r:Int):=iE;have P:a<n:=(by have:=p.1.1;have:=p.1.2.2.1;omega);have Q:r<n:=(by have:=p.1.1;omega);have a6:(a:Int)<(n:Int):=iE;have a7:(r:Int)<(n:Int):=iE;have a8:(0:Int)<=(r:Int):=iE;obtain⟨x,hx⟩:=iC (dj[a]! );obtain⟨y,hy⟩:=iC (dj[r]! );have u:=ae (iJ hx (iJ hy (iJ P (iJ Q hr))));clear hx hy P Q hr E F i l e1;obtain⟨ai,ak,al,am,⟨a9,an⟩,ao,ap,v⟩:=aa.1.qm j.1.1 u.1.2.2.1 u.1.2.2.2.1 u.1.1 u.1.2.1;have s:=ae v;clear v
     go_upto_region 10 with fail
     have aq:=qo
     go_big_region_o
     clear aq;obtain⟨V,v⟩:=iC (((wr.setCell ⟨B,off+a,ag⟩ (.int .i64 y)).setCell ⟨B,off+r,ag⟩ (.int .i64 x)).drew);rw[v]at s⊢;clear v ai ak an al am ao ap;have J:=ae (N.1 V 0 q (swp dj a r) s.1.1 iG (by have:=p.1.1;have:=j.1.2.2.2;omega))
     go_wp2_with(go_at_call 161;refine J.1.mono ?_;rintro e w3 ⟨rfl,z⟩;have A:=ae z;clear z)
     go_roundw
     case rel=>exact⟨q,siftDown (ltOf c) q a 0 (swp dj a r),by first|rfl|go_num,by have:=j.1.2.2.2;omega,A.1.1,(j.1.2.1.trans s.1.2).trans A.1.2,by rw[<-u.1.2.2.2.2];exact j.1.2.2.1⟩
     case measure=>simp[intOf]
  |succ q=>
   have e1:((q+1:Nat):Int) - 1=(q:Int):=iE;rw[e1];have o:=ae (iJ t (iJ D (iJ (show heapBuild (ltOf c) m a q (siftDown (ltOf c) m a q f)=heapBuild (ltOf c) m a (h+1) d from i) l)));have ac:(q:Int)<=1000000:=iE;have ad:(0:Int)<=(q:Int):=iE;have J:=ae (N.1 wr q m f t iE p.1.1);clear t D i l e1
   go_wp2_with(go_at_call 161;refine J.1.mono ?_;rintro e w3 ⟨rfl,z⟩;have A:=ae z;clear z)
   go_roundw
   case rel=>exact⟨q,siftDown (ltOf c) m a q f,by first|rfl|go_num,by have:=o.1.2.2.2;omega,A.1.1,o.1.2.1.trans A.1.2,o.1.2.2.1⟩
   case measure=>simp[intOf]
def oZ (base p:Nat)(W W':ah):Prop:=W.heap.size<=W'.heap.size/\∀q,base<=q->q<W.heap.size->q≠p->W'.heap[q]?=W.heap[q]?
theorem oZ.trans {base p:Nat}{a b c:ah}(h:oZ base p a b)(k:oZ base p b c):oZ base p a c:=
 ⟨bK h.1 k.1,λq d e f=>(k.2 q d (bz e h.1) f).trans (h.2 q d e f)⟩
theorem ja.x {base:Nat}(p:Nat){a b:ah}(h:ja base a b):oZ base p a b:=⟨h.1,λq c d _=>h.2 q c d⟩
theorem oZ.set (base p:Nat)(W:ah)(v:aB):oZ base p W (W.setCell ⟨p,0,ag⟩ v):=
 ⟨by simp[aO],λq _ _ h=>by
  have a:¬p=q:=λe=>h e.symm
  simp[aO,aJ,a]⟩
theorem count_set {W:ah}{p T:Nat}{a:aB}(h:W.heap[p]?=au (.cells #[a] T))(v:aB):(W.setCell ⟨p,0,ag⟩ v).heap[p]?=au (.cells #[v] T):=by simp[aO,aJ,h]
theorem WU {base u off n g:Nat}{v:Array aB}{f:Int->Int->Int}{z:Nat->Prop}{S:Array Int->ah->Prop}(C:lH base u off n g v f z S)(cap a b p k:Nat)(d:Array Int)(w:ah)(hS:S d w)(ha:a<n)(A:b<n)(hp:base<=p/\z p)(D:k<=1000)(B:w.heap[p]?=au (.cells #[.int .i64 (k:Nat)] 3))(hn:n<=1000000)(J:off<=1000000000)(E:n<=cap)(F:cap<=1000000000):
  aK aA 190 #[.slice (au ⟨u,off,ag⟩) n cap,.int .i64 a,.int .i64 b,.pointer (au ⟨p,0,ag⟩),.func (.func g) #[] v] w λe w'=>e=.returned (.tuple #[.int .i64 (order2 (ltOf f) d a b k).1,.int .i64 (order2 (ltOf f) d a b k).2.1])/\S d w'/\oZ base p w w'/\w'.heap[p]?=au (.cells #[.int .i64 ((order2 (ltOf f) d a b k).2.2 :Nat)] 3):=by
 have K:(n:Int)<=1000000:=iE
 have l:=ae C;have L:=C.enters;have M:(n:Int)<=(cap:Int):=iE
 have N:(cap:Int)<=1000000000:=iE
 have o:=ae hS;have O:(a:Int)<(n:Int):=iE
 have P:(b:Int)<(n:Int):=iE
 have Q:(0:Int)<=(a:Int):=iE
 have R:(0:Int)<=(b:Int):=iE
 have T:(k:Int)<=1000:=iE
 have U:(0:Int)<=(k:Int):=iE
 obtain⟨x,hx⟩:=iC (d[b]! );obtain⟨y,hy⟩:=iC (d[a]! );have c:=ae (iJ hx (iJ hy (iJ ha (iJ A (iJ hp B)))));have j:=ae (show order2 (ltOf f) d a b k=if decide (f x y<0)=ay then(b,a,k+1)else(a,b,k) by unfold order2 ltOf;rw[hx,hy]);clear hS C hx hy ha A hp B hn E F D;go_enter Tryz.func190,Tryz.ntmps190;by_cases hv:f x y<0
 ·have hd:decide (f x y<0)=ay:=iq hv
  have j:=ae (j.1.trans (gY hd))
  go_upto_region 1 with fail
  have q:=ae (l.1.lg o.1 c.1.2.2.2.1 c.1.2.2.1 c.1.1 c.1.2.1);refine l.1.reg (aF:=?_) (d:=d) iF ?_ ?_;rotate_left 1
  ·intro ρ r
   obtain⟨G,H,I,h⟩:=q.1 ρ r;have s:=ae h;clear h
   repeat(go_big_quiet_step((go_at_fn g;exact Mix.iZ.calls (λ_ _ _ h k=>h.trans k) (s.1 _))))
   apply ax;exact rfl
  intro V m;have i:=ae (m o.1);clear m;have hcv:=(i.1.2.2 p c.1.2.2.2.2.1.1 (aC.1 c.1.2.2.2.2.2).1).trans c.1.2.2.2.2.2;have cp:=iK hcv 0 (.int .i64 (k:Nat));have W:=Lib.frozen_of_heap hcv 0;have t:=ae hcv;clear hcv;go_wp2;go_ret2;rw[j.1];exact⟨rfl,l.1.box d V p _ i.1.1 c.1.2.2.2.2.1.1 c.1.2.2.2.2.1.2,(i.1.2.x p).trans (oZ.set _ _ _ _),count_set t.1 _⟩
 ·have hd:decide (f x y<0)=aj:=iw hv
  have j:=ae (j.1.trans (gZ (by rw[hd];exact Bool.false_ne_true)))
  go_upto_region 1 with fail
  have q:=ae (l.1.lg o.1 c.1.2.2.2.1 c.1.2.2.1 c.1.1 c.1.2.1);refine l.1.reg (aF:=?_) (d:=d) iF ?_ ?_;rotate_left 1
  ·intro ρ r
   obtain⟨G,H,I,h⟩:=q.1 ρ r;have s:=ae h;clear h
   repeat(go_big_quiet_step((go_at_fn g;exact Mix.iZ.calls (λ_ _ _ h k=>h.trans k) (s.1 _))))
   apply ax;exact rfl
  intro V m;have i:=ae (m o.1);clear m;have t:=ae ((i.1.2.2 p c.1.2.2.2.2.1.1 (aC.1 c.1.2.2.2.2.2).1).trans c.1.2.2.2.2.2);go_wp2;go_ret2;rw[j.1];exact⟨rfl,i.1.1,i.1.2.x p,t.1⟩
theorem order2_lt (lt:Int->Int->Bool)(d:Array Int)(a b k n:Nat)(ha:a<n)(c:b<n):(order2 lt d a b k).1 <n/\(order2 lt d a b k).2.1 <n/\(order2 lt d a b k).2.2 <=k+1:=by unfold order2;split<;>simp<;>omega
theorem KC {base u off n g:Nat}{v:Array aB}{f:Int->Int->Int}{I:Nat->Prop}{S:Array Int->ah->Prop}(C:lH base u off n g v f I S)(cap a b c p k:Nat)(d:Array Int)(w:ah)(hS:S d w)(ha:a<n)(q:b<n)(hc:c<n)(hp:base<=p/\I p)(A:k<=900)(x:w.heap[p]?=au (.cells #[.int .i64 (k:Nat)] 3))(hn:n<=1000000)(J:off<=1000000000)(K:n<=cap)(L:cap<=1000000000):
  aK aA 165 #[.slice (au ⟨u,off,ag⟩) n cap,.int .i64 a,.int .i64 b,.int .i64 c,.pointer (au ⟨p,0,ag⟩),.func (.func g) #[] v] w λe w'=>e=.returned (.int .i64 (median (ltOf f) d a b c k).1)/\S d w'/\oZ base p w w'/\w'.heap[p]?=au (.cells #[.int .i64 ((median (ltOf f) d a b c k).2 :Nat)] 3):=by
 have i:=ae (λ(W:ah) (a b k:Nat) (hS:S d W) (ha:a<n) (q:b<n) (A:k<=1000) (x:W.heap[p]?=au (.cells #[.int .i64 (k:Nat)] 3))=>WU C cap a b p k d W hS ha q hp A x hn J K L);have j:=ae (show median (ltOf f) d a b c k=((order2 (ltOf f) d (order2 (ltOf f) d a b k).1 (order2 (ltOf f) d (order2 (ltOf f) d a b k).2.1 c (order2 (ltOf f) d a b k).2.2).1 (order2 (ltOf f) d (order2 (ltOf f) d a b k).2.1 c (order2 (ltOf f) d a b k).2.2).2.2).2.1,(order2 (ltOf f) d (order2 (ltOf f) d a b k).1 (order2 (ltOf f) d (order2 (ltOf f) d a b k).2.1 c (order2 (ltOf f) d a b k).2.2).1 (order2 (ltOf f) d (order2 (ltOf f) d a b k).2.1 c (order2 (ltOf f) d a b k).2.2).2.2).2.2)from rfl);have l:=order2_lt (ltOf f) d a b k n ha q;have B:=ae (i.1 w a b k hS ha q iE x);obtain⟨r1,M⟩:=iC (order2 (ltOf f) d a b k);obtain⟨y,b1,z⟩:=r1;rw[M]at l B j;simp only at l B j;have s:=order2_lt (ltOf f) d b1 c z n l.2.1 hc;obtain⟨r2,D⟩:=iC (order2 (ltOf f) d b1 c z);obtain⟨b2,O,t⟩:=r2;rw[D]at s j;simp only at s j;have E:=order2_lt (ltOf f) d y b2 t n l.1 s.1;obtain⟨P,F⟩:=iC (order2 (ltOf f) d y b2 t);obtain⟨Q,b3,R⟩:=P;rw[F]at E j;simp only at E j
 have T:PLift (∀W,S d W->W.heap[p]?=au (.cells #[.int .i64 (z:Nat)] 3)->aK aA 190 #[.slice (au ⟨u,off,ag⟩) n cap,.int .i64 b1,.int .i64 c,.pointer (au ⟨p,0,ag⟩),.func (.func g) #[] v] W λe w'=>e=.returned (.tuple #[.int .i64 b2,.int .i64 O])/\S d w'/\oZ base p W w'/\w'.heap[p]?=au (.cells #[.int .i64 (t:Nat)] 3)):=⟨λW m o=>by have h:=i.1 W b1 c z m l.2.1 hc iE o;rw[D]at h;exact h⟩
 have U:PLift (∀W,S d W->W.heap[p]?=au (.cells #[.int .i64 (t:Nat)] 3)->aK aA 190 #[.slice (au ⟨u,off,ag⟩) n cap,.int .i64 y,.int .i64 b2,.pointer (au ⟨p,0,ag⟩),.func (.func g) #[] v] W λe w'=>e=.returned (.tuple #[.int .i64 Q,.int .i64 b3])/\S d w'/\oZ base p W w'/\w'.heap[p]?=au (.cells #[.int .i64 (R:Nat)] 3)):=⟨λW m o=>by have h:=i.1 W y b2 t m l.1 s.1 iE o;rw[F]at h;exact h⟩
 rw[j.1];clear i j l s E M D F hS C ha q hc hp A x hn J K L;go_enter Tryz.func165,Tryz.ntmps165
 go_upto_region 2 with(go_at_call 190;refine B.1.mono ?_;rintro e V ⟨rfl,m⟩;have G:=ae m;clear m)
 go_upto_region 3 with(go_at_call 190;refine(T.1 _ G.1.1 G.1.2.2).mono ?_;rintro e X ⟨rfl,o⟩;have i:=ae o;clear o)
 go_wp2_with(go_at_call 190;refine(U.1 _ i.1.1 i.1.2.2).mono ?_;rintro e w3 ⟨rfl,N⟩;have H:=ae N;clear N)
 go_ret;exact⟨rfl,H.1.1,(G.1.2.1.trans i.1.2.1).trans H.1.2.1,H.1.2.2⟩
theorem Ap (lt:Int->Int->Bool)(d:Array Int)(a b c k n:Nat)(ha:a<n)(f:b<n)(hc:c<n):(median lt d a b c k).1 <n/\(median lt d a b c k).2 <=k+3:=by unfold median;have e:=order2_lt lt d a b k n ha f;have g:=order2_lt lt d (order2 lt d a b k).2.1 c (order2 lt d a b k).2.2 n e.2.1 hc;have h:=order2_lt lt d (order2 lt d a b k).1 (order2 lt d (order2 lt d a b k).2.1 c (order2 lt d a b k).2.2).1 (order2 lt d (order2 lt d a b k).2.1 c (order2 lt d a b k).2.2).2.2 n e.1 g.1;exact⟨h.2.1,by simp only;omega⟩
theorem WV {base c off n g:Nat}{f:Array aB}{b:Int->Int->Int}{h:Nat->Prop}{S:Array Int->ah->Prop}(C:lH base c off n g f b h S)(cap a p k:Nat)(d:Array Int)(w:ah)(hS:S d w)(x:1<=a)(ha:a+1<n)(hp:base<=p/\h p)(i:k<=900)(j:w.heap[p]?=au (.cells #[.int .i64 (k:Nat)] 3))(hn:n<=1000000)(l:off<=1000000000)(m:n<=cap)(o:cap<=1000000000):
  aK aA 164 #[.slice (au ⟨c,off,ag⟩) n cap,.int .i64 a,.pointer (au ⟨p,0,ag⟩),.func (.func g) #[] f] w λe w'=>e=.returned (.int .i64 (medianAdjacent (ltOf b) d a k).1)/\S d w'/\oZ base p w w'/\w'.heap[p]?=au (.cells #[.int .i64 ((medianAdjacent (ltOf b) d a k).2 :Nat)] 3):=by
 have s:=ae (KC C cap (a - 1) a (a+1) p k d w hS iE iE ha hp i j hn l m o);have t:=ae (show medianAdjacent (ltOf b) d a k=median (ltOf b) d (a - 1) a (a+1) k from rfl);rw[t.1];have z:(a:Int)<=1000000:=iE
 obtain⟨q,u⟩:=iC (a - 1);obtain⟨r,hr⟩:=iC (a+1);have A:(a:Int) - 1=(q:Int):=iE
 have B:(a:Int)+1=(r:Int):=iE
 have D:(0:Int)<=(q:Int):=iE
 have E:(r:Int)<=1000001:=iE
 rw[u,hr]at s⊢;clear t hS C x ha hp i j hn l m o u hr;go_enter Tryz.func164,Tryz.ntmps164
 go_wp2_with(go_at_call 165;refine s.1.mono ?_;rintro e F ⟨rfl,v⟩;have y:=ae v;clear v)
 go_ret;exact⟨rfl,y.1⟩
theorem WM {base K off n g:Nat}{a1:Array aB}{l:Int->Int->Int}{bl:Nat->Prop}{S:Array Int->ah->Prop}(C:lH base K off n g a1 l bl S)(cap a b r:Nat)(d:Array Int)(w:ah)(hS:S d w)(bm:a<=r)(bo:r<b)(a2:b<=n)(hn:n<=1000000)(b6:off<=1000000000)(bp:n<=cap)(bq:cap<=1000000000):
  aK aA 144 #[.slice (au ⟨K,off,ag⟩) n cap,.int .i64 a,.int .i64 b,.int .i64 r,.func (.func g) #[] a1] w λe w'=>e=.returned (.int .i64 ((partitionEqual (ltOf l) d a b r).1 :Nat))/\S (partitionEqual (ltOf l) d a b r).2 w'/\ja base w w':=by
 have b7:(n:Int)<=1000000:=iE
 have u:=ae C;have b8:=C.enters;have b9:(n:Int)<=(cap:Int):=iE
 have ca:(cap:Int)<=1000000000:=iE
 have br:=ae hS;have s:=ae (iJ a2 (iJ hn (iJ (show a<n by omega) (iJ (show r<n by omega) (show a<b by omega)))));have cb:(a:Int)<=1000000:=iE
 have cc:(0:Int)<=(a:Int):=iE
 have cd:(b:Int)<=1000000:=iE
 have ce:(1:Int)<=(b:Int):=iE
 have a3:(a:Int)<(n:Int):=iE
 have cf:(r:Int)<(n:Int):=iE
 have cg:(0:Int)<=(r:Int):=iE
 obtain⟨bs,a4⟩:=iC (d[a]! );obtain⟨bt,a5⟩:=iC (d[r]! );obtain⟨b1,a6⟩:=iC (b - 1);have ch:(b:Int) - 1=(b1:Int):=iE
 have ad:=ae (iJ a4 (iJ a5 a6));clear hS C a2 hn bp bq bm bo a4 a5 a6;go_enter Tryz.func144,Tryz.ntmps144;obtain⟨bv,bw,bx,bA,⟨ci,bB⟩,bE,bL,O⟩:=u.1.qm br.1 s.1.2.2.1 s.1.2.2.2.1 ad.1.1 ad.1.2.1;have am:=ae O;clear O
 go_upto_region 1 with fail
 have an:=qo
 go_big_region_o
 clear an;obtain⟨a7,O⟩:=iC (((w.setCell ⟨K,off+a,ag⟩ (.int .i64 bt)).setCell ⟨K,off+r,ag⟩ (.int .i64 bs)).drew);rw[O]at am⊢;clear O bv bw bB bx bA bE bL
 go_upto_region 3 with fail
 go_loopw [11,12] (λao ap wr=>∃(i j:Nat) (c:Array Int),ao=.int .i64 (i:Nat)/\ap=.int .i64 (j:Nat)/\a<i/\i<=b/\j<b/\S c wr/\ja base w wr/\partEqLoop (ltOf l) a i j c=partEqLoop (ltOf l) a (a+1) (b - 1) (swp d a r)) (λao ap _=>(intOf ap).toNat+1 - (intOf ao).toNat)
 case atStart=>exact⟨a+1,b1,swp d a r,by first|rfl|go_num,by first|rfl|go_num,iE,by have:=s.1.2.2.2.2;omega,by have:=ad.1.2.2;have:=s.1.2.2.2.2;omega,am.1.1,am.1.2,by rw[ad.1.2.2]⟩
 case round=>
  obtain⟨i,j,c,rfl,rfl,a8,a9,aq,ba,bb,bc⟩:=hrel;have G:=ae (iJ ba (iJ bb (iJ bc (iJ a8 (iJ a9 aq)))));have P:=ae aq;have bd:=ae (show j<n by have:=s.1.1;omega);have cj:(i:Int)<=1000000:=iE
  have ck:(0:Int)<=(i:Int):=iE
  have cl:(j:Int)<=1000000:=iE
  have cm:(0:Int)<=(j:Int):=iE
  clear ba bb bc a8 a9 aq
  go_upto_region 3 with fail
  go_loopw [11] (λv Q=>∃f:Nat,v=.int .i64 (f:Nat)/\i<=f/\f<=b/\S c Q/\ja base w Q/\scanUp (λx=>!ltOf l c[a]! x) c j f=scanUp (λx=>!ltOf l c[a]! x) c j i) (λv _=>b+1 - (intOf v).toNat)
  case atStart=>exact⟨i,by first|rfl|go_num,aP _,G.1.2.2.2.2.1,G.1.1,G.1.2.1,rfl⟩
  case round=>
   obtain⟨f,rfl,R,T,V,W,X⟩:=hrel;have p:=ae (iJ V (iJ W (iJ X (iJ R T))));have cn:(f:Int)<=1000000:=(by have:=p.1.2.2.2.2;have:=s.1.1;have:=s.1.2.1;omega);have co:(0:Int)<=(f:Int):=iE;clear V W X R T;by_cases z:f<=j
   case' neg=>
    have H:¬(f:Int)<=(j:Int):=iE;have ar:decide ((f:Int)<=(j:Int))=aj:=iw H;have Y:PLift (f=scanUp (λx=>!ltOf l c[a]! x) c j i):=⟨(scanUp_end (λx=>!ltOf l c[a]! x) c j f (.inl z)).symm.trans p.1.2.2.1⟩;have cp:=ae z;clear z
    go_upto_region 3 with fail
    refine u.1.reg (aF:=?_) (d:=c) iF ?_ ?_;rotate_left 1
    ·intro ρ D
     haveI:=jD.inh (base:=base) (S:=S) (d:=c) ρ
     repeat(go_big_quiet_step(fail))
     apply ax;exact rfl
    intro be E;have A:=ae (E p.1.1);clear E;have av:=ae (iJ A.1.1 (p.1.2.1.trans A.1.2));have ai:=ae p.1.2.2.2;clear A p
   case' pos=>
    have H:(f:Int)<=(j:Int):=iE;have ar:decide ((f:Int)<=(j:Int))=ay:=iq H;have Z:f<n:=(by have:=bd.1;have:=p.1.2.2.2.1;omega);have bM:(f:Int)<(n:Int):=iE;have a3:(a:Int)<(n:Int):=(by have:=s.1.2.2.1;omega);obtain⟨x,hx⟩:=iC (c[a]! );obtain⟨y,hy⟩:=iC (c[f]! );have t:=ae (iJ hx (iJ hy (iJ Z z)));clear hx hy Z z;by_cases hv:l x y<0
    case neg=>
     have hd:decide (l x y<0)=aj:=iw hv;have I:(!decide (l x y<0))=ay:=(by rw[hd];rfl);have aa:0<=l x y:=iE
     go_upto_region 3 with fail
     have aw:=ae (u.1.lg p.1.1 s.1.2.2.1 t.1.2.2.1 t.1.1 t.1.2.1);refine u.1.reg (aF:=?_) (d:=c) iF ?_ ?_;rotate_left 1
     ·intro ρ D
      obtain⟨aD,aE,aG,h⟩:=aw.1 ρ D;have J:=ae h;clear h
      repeat(go_big_quiet_step((go_at_fn g;exact Mix.iZ.calls (λ_ _ _ h k=>h.trans k) (J.1 _))))
      apply ax;exact rfl
     intro be E;have A:=ae (E p.1.1);clear E
     have Y:PLift (scanUp (λx=>!ltOf l c[a]! x) c j (f+1)=scanUp (λx=>!ltOf l c[a]! x) c j i):=⟨by have hp:(λx=>!ltOf l c[a]! x) c[f]! =ay:=(by show(!decide (l c[a]! c[f]!<0))=ay;rw[t.1.1,t.1.2.1];exact I);exact(scanUp_go (λx=>!ltOf l c[a]! x) c j f t.1.2.2.2 hp).symm.trans p.1.2.2.1⟩
     go_wp2;go_roundw
     case rel=>exact⟨f+1,by first|rfl|go_num,by have:=p.1.2.2.2.1;omega,by have:=t.1.2.2.2;have:=P.1;omega,A.1.1,p.1.2.1.trans A.1.2,Y.1⟩
     case measure=>have:=t.1.2.2.2;have:=P.1;simp[intOf];omega
    case' pos=>
     have hd:decide (l x y<0)=ay:=iq hv;have I:(!decide (l x y<0))=aj:=(by rw[hd];rfl);have aa:¬0<=l x y:=iE
     go_upto_region 3 with fail
     have aw:=ae (u.1.lg p.1.1 s.1.2.2.1 t.1.2.2.1 t.1.1 t.1.2.1);refine u.1.reg (aF:=?_) (d:=c) iF ?_ ?_;rotate_left 1
     ·intro ρ D
      obtain⟨aD,aE,aG,h⟩:=aw.1 ρ D;have J:=ae h;clear h
      repeat(go_big_quiet_step((go_at_fn g;exact Mix.iZ.calls (λ_ _ _ h k=>h.trans k) (J.1 _))))
      apply ax;exact rfl
     intro be E;have A:=ae (E p.1.1);clear E
     have Y:PLift (f=scanUp (λx=>!ltOf l c[a]! x) c j i):=⟨by have hp:(λx=>!ltOf l c[a]! x) c[f]! =aj:=(by show(!decide (l c[a]! c[f]!<0))=aj;rw[t.1.1,t.1.2.1];exact I);exact(scanUp_end (λx=>!ltOf l c[a]! x) c j f (.inr hp)).symm.trans p.1.2.2.1⟩
     have av:=ae (iJ A.1.1 (p.1.2.1.trans A.1.2));have ai:=ae p.1.2.2.2;clear A p hv hd I aa
   all_goals
    have L:=ae (show 0<f by have:=ai.1.1;have:=G.1.2.2.2.1;omega)
    go_upto_region 5 with fail
    go_loopw [12] (λv Q=>∃m:Nat,v=.int .i64 (m:Nat)/\m<=j/\0<=m/\S c Q/\ja base w Q/\scanDown (λx=>ltOf l c[a]! x) c f m=scanDown (λx=>ltOf l c[a]! x) c f j) (λv _=>(intOf v).toNat)
    case atStart=>exact⟨j,by first|rfl|go_num,aP _,aT _,av.1.1,av.1.2,rfl⟩
    case round=>
     obtain⟨m,rfl,R,T,V,W,X⟩:=hrel;have q:=ae (iJ V (iJ W (iJ X (iJ R T))));have cq:(m:Int)<=1000000:=(by have:=P.1;omega);have cr:(0:Int)<=(m:Int):=iE;clear V W X R T;by_cases z:f<=m
     case neg=>
      have H:¬(f:Int)<=(m:Int):=iE;have ar:decide ((f:Int)<=(m:Int))=aj:=iw H;have M:PLift (m=scanDown (λx=>ltOf l c[a]! x) c f j):=⟨(scanDown_end (λx=>ltOf l c[a]! x) c f m (.inl z)).symm.trans q.1.2.2.1⟩;have bf:=ae z;clear z
      go_upto_region 5 with fail
      refine u.1.reg (aF:=?_) (d:=c) iF ?_ ?_;rotate_left 1
      ·intro ρ D
       haveI:=jD.inh (base:=base) (S:=S) (d:=c) ρ
       repeat(go_big_quiet_step(fail))
       apply ax;exact rfl
      intro aL F;have B:=ae (F q.1.1);clear F;have ab:=ae (iJ B.1.1 (q.1.2.1.trans B.1.2));have ak:=ae q.1.2.2.2;clear B q;have bN:(m:Int)<(f:Int):=(by have:=bf.1;omega);have al:PLift (partEqLoop (ltOf l) a (a+1) (b - 1) (swp d a r)=(f,c)):=⟨by rw[<-G.1.2.2.1];exact partEq_break (ltOf l) a i j c Y.1 M.1 (by have:=bf.1;omega)⟩;go_wp2;go_ret;exact⟨by(simp only[partitionEqual,al.1])<;>rfl,by unfold partitionEqual;rw[al.1];exact ab.1.1,ab.1.2⟩
     case pos=>
      have H:(f:Int)<=(m:Int):=iE;have ar:decide ((f:Int)<=(m:Int))=ay:=iq H;have Z:m<n:=(by have:=bd.1;have:=q.1.2.2.2.1;omega);have bM:(m:Int)<(n:Int):=iE;have a3:(a:Int)<(n:Int):=(by have:=s.1.2.2.1;omega);obtain⟨x,hx⟩:=iC (c[a]! );obtain⟨y,hy⟩:=iC (c[m]! );have o:=ae (iJ hx (iJ hy (iJ Z z)));clear hx hy Z z;by_cases hv:l x y<0
      case pos=>
       have hd:decide (l x y<0)=ay:=iq hv;have I:(!decide (l x y<0))=aj:=(by rw[hd];rfl);have aa:¬0<=l x y:=iE
       go_upto_region 5 with fail
       have aM:=ae (u.1.lg q.1.1 s.1.2.2.1 o.1.2.2.1 o.1.1 o.1.2.1);refine u.1.reg (aF:=?_) (d:=c) iF ?_ ?_;rotate_left 1
       ·intro ρ D
        obtain⟨aD,aE,aG,h⟩:=aM.1 ρ D;have J:=ae h;clear h
        repeat(go_big_quiet_step((go_at_fn g;exact Mix.iZ.calls (λ_ _ _ h k=>h.trans k) (J.1 _))))
        apply ax;exact rfl
       intro aL F;have B:=ae (F q.1.1);clear F
       have M:PLift (scanDown (λx=>ltOf l c[a]! x) c f (m - 1)=scanDown (λx=>ltOf l c[a]! x) c f j):=⟨by have hp:(λx=>ltOf l c[a]! x) c[m]! =ay:=(by show decide (l c[a]! c[m]!<0)=ay;rw[o.1.1,o.1.2.1];exact hd);exact(scanDown_go (λx=>ltOf l c[a]! x) c f m o.1.2.2.2 (by have:=o.1.2.2.2;have:=L.1;omega) hp).symm.trans q.1.2.2.1⟩
       obtain⟨k',aR⟩:=iC (m - 1);have cs:(m:Int) - 1=(k':Int):=(by have:=o.1.2.2.2;have:=L.1;omega);have bg:=ae aR;rw[aR]at M;clear aR;go_wp2;go_roundw
       case rel=>exact⟨k',by first|rfl|go_num,by have:=q.1.2.2.2.1;have:=bg.1;omega,aT _,B.1.1,q.1.2.1.trans B.1.2,M.1⟩
       case measure=>have:=bg.1;have:=o.1.2.2.2;have:=L.1;simp[intOf];omega
      case neg=>
       have hd:decide (l x y<0)=aj:=iw hv;have I:(!decide (l x y<0))=ay:=(by rw[hd];rfl);have aa:0<=l x y:=iE
       go_upto_region 5 with fail
       have aM:=ae (u.1.lg q.1.1 s.1.2.2.1 o.1.2.2.1 o.1.1 o.1.2.1);refine u.1.reg (aF:=?_) (d:=c) iF ?_ ?_;rotate_left 1
       ·intro ρ D
        obtain⟨aD,aE,aG,h⟩:=aM.1 ρ D;have J:=ae h;clear h
        repeat(go_big_quiet_step((go_at_fn g;exact Mix.iZ.calls (λ_ _ _ h k=>h.trans k) (J.1 _))))
        apply ax;exact rfl
       intro aL F;have B:=ae (F q.1.1);clear F
       have M:PLift (m=scanDown (λx=>ltOf l c[a]! x) c f j):=⟨by have hp:(λx=>ltOf l c[a]! x) c[m]! =aj:=(by show decide (l c[a]! c[m]!<0)=aj;rw[o.1.1,o.1.2.1];exact hd);exact(scanDown_end (λx=>ltOf l c[a]! x) c f m (.inr hp)).symm.trans q.1.2.2.1⟩
       have ab:=ae (iJ B.1.1 (q.1.2.1.trans B.1.2));have ak:=ae q.1.2.2.2;clear B q hv hd I aa;have bN:¬(m:Int)<(f:Int):=(by have:=o.1.2.2.2;omega);have bh:f<n:=(by have:=o.1.2.2.2;have:=o.1.2.2.1;omega);have ct:(f:Int)<(n:Int):=iE;have al:PLift (partEqLoop (ltOf l) a (f+1) (m - 1) (swp c f m)=partEqLoop (ltOf l) a (a+1) (b - 1) (swp d a r)):=⟨by rw[<-G.1.2.2.1];exact(partEq_go (ltOf l) a i j c Y.1 M.1 (by have:=o.1.2.2.2;omega)).symm⟩;obtain⟨bO,bi⟩:=iC (c[f]! );obtain⟨bR,bj⟩:=iC (c[m]! );obtain⟨j',bk⟩:=iC (m - 1);have cv:(m:Int) - 1=(j':Int):=(by have:=L.1;have:=o.1.2.2.2;omega);have N:=ae (iJ bi (iJ bj (iJ bh bk)));clear bi bj bh bk;obtain⟨bS,bX,b0,b2,⟨cw,b3⟩,b4,b5,ac⟩:=u.1.qm ab.1.1 N.1.2.2.1 o.1.2.2.1 N.1.1 N.1.2.1;have a0:=ae ac;clear ac
       go_upto_region 8 with fail
       have an:=qo
       go_big_region_o
       clear an;obtain⟨U,ac⟩:=iC (((aL.setCell ⟨K,off+f,ag⟩ (.int .i64 bR)).setCell ⟨K,off+m,ag⟩ (.int .i64 bO)).drew);rw[ac]at a0⊢;clear ac bS bX b3 b0 b2 b4 b5;go_wp2;go_roundw
       case rel=>exact⟨f+1,j',swp c f m,by first|rfl|go_num,by first|rfl|go_num,by have:=L.1;have:=G.1.2.2.2.1;have:=ai.1.1;omega,by have:=o.1.2.2.2;have:=P.1;have:=ak.1.1;omega,by have:=N.1.2.2.2;have:=P.1;have:=ak.1.1;have:=o.1.2.2.2;omega,a0.1.1,ab.1.2.trans a0.1.2,by rw[<-N.1.2.2.2];exact al.1⟩
       case measure=>have:=N.1.2.2.2;have:=ai.1.1;have:=ak.1.1;have:=o.1.2.2.2;have:=L.1;simp[intOf];omega
