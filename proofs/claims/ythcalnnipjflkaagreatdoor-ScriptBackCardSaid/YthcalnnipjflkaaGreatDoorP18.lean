import Derived.Test.YthcalnnipjflkaaGreatDoorP12
import Derived.Test.YthcalnnipjflkaaGreatDoorP13
open PLift renaming up -> ae
open List renaming getD_eq_getElem?_getD -> af, getElem?_eq_getElem -> ah, getElem?_eq_some_iff -> au, getElem?_zip_eq_some -> ax, getElem_mem -> az, length_append -> aA, length_set -> aC, getElem?_append_left -> aH, take_succ_eq_append_getElem -> aO, getElem?_append_right -> aT, getElem?_map -> aU, getElem?_eq_none_iff -> aV, getElem?_cons_zero -> aX, length_zip -> aY, filter_eq_nil_iff -> aZ, mem_of_getElem? -> bn, getElem?_inj -> bu, take_length -> bH, append_nil -> bI, mem_append -> bJ, map_append -> bK, length_map -> bP
open Go.Lib renaming cell_of_heap -> ag, alloc_old -> bT
open Go renaming Value -> aj, World -> ay, heap_alloc_new -> aJ
open Option renaming some -> aB, none -> aN, getD_some -> aW, map_eq_map -> bz
open Go.Proofs.Tryz renaming underlying186 -> aI, prog -> aS, underlying36 -> bC
open Int renaming toNat_natCast -> aK
open Nat renaming not_lt_zero -> aP, le_refl -> bD, zero_le -> bF, lt_succ_self -> bG, sub_self -> bU, le_trans -> bV
open Go.Value renaming int -> aQ, oneCell' -> bQ
set_option linter.all false
set_option maxHeartbeats 16000000
set_option maxRecDepth 1000000
namespace Go.Proofs.YthcalnnipjflkaaGreatDoor
open Go.RowKit
open Go.Lib hiding intOf
def mD (N:List Nd)(x:Int):Int×ByteArray:=((N.getD x.toNat nd0).kind,(N.getD x.toNat nd0).text)
def encS (k:Int×ByteArray):aj:=.agg #[.int .i64 k.1,.string k.2]
theorem JX {a b:Int×ByteArray}(h:encS a=encS b):a=b:=by have e1:=Array.mk.inj (Value.agg.inj h);have c:=(List.cons.inj e1);have e3:=(List.cons.inj c.2);exact Prod.ext (Value.int.inj c.1).2 (Value.string.inj e3.1)
def ql (N:List Nd)(f:Nat):List Int->List Int->Bool
 |_,[]=>false
 |pre,x::r=>(pre.filter λy=>decide (mD N y=mD N x)).any (λy=>jy N f x.toNat y.toNat)||ql N f (pre++[x]) r
def Ai (N:List Nd)(f:Nat):Bool:=N.any λn=>ql N f [] n.keys
structure GF (N:List Nd)(pre:List Int)(ks:List (Int×ByteArray))(Ls:List (List Int)):Prop where
 nd:ks.Nodup
 ln:Ls.length=ks.length
 grp:∀(c:Nat) (k:Int×ByteArray),ks[c]?=aB k->Ls.getD c []=pre.filter λy=>decide (mD N y=k)
 all:∀y∈pre,mD N y∈ks
theorem GF.start (N:List Nd):GF N [] [] []:=⟨List.nodup_nil,rfl,λc k h=>by simp at h,λ_ h=>(List.not_mem_nil h).elim⟩
theorem JY (N:List Nd)(pre:List Int)(x:Int)(k:Int×ByteArray):(pre++[x]).filter (λy=>decide (mD N y=k))=pre.filter (λy=>decide (mD N y=k))++(if mD N x=k then[x]else[]):=by
 rw[List.filter_append]
 congr 1
 by_cases h:mD N x=k<;>simp[h]
theorem GF.old {N:List Nd}{pre:List Int}{a:List (Int×ByteArray)}{Ls:List (List Int)}(h:GF N pre a Ls)(x:Int)(c:Nat)(hc:a[c]?=aB (mD N x)):GF N (pre++[x]) a (Ls.set c (Ls.getD c []++[x])) where
 nd:=h.nd
 ln:=by rw[aC];exact h.ln
 grp:=λi k hi=>by
  have f:c<Ls.length:=by rw[h.ln];exact(au.1 hc).1
  rw[JY,mZ];by_cases e:c=i
  ·subst e
   rw[hc]at hi;obtain rfl:=Option.some.inj hi;rw[gY ⟨rfl,f⟩,gY rfl,h.grp c _ hc]
  ·rw[gZ (λb=>e b.1),gZ,bI]
   ·exact h.grp i k hi
   ·intro b
    rw[<-b,<-hc]at hi;exact e ((bu (au.1 hc).1 h.nd).1 hi.symm)
 all:=λy hy=>by
  rcases bJ.1 hy with d|d
  ·exact h.all y d
  ·have:y=x:=by simpa using d
   rw[this];exact bn hc
theorem GF.new {N:List Nd}{pre:List Int}{c:List (Int×ByteArray)}{Ls:List (List Int)}(h:GF N pre c Ls)(x:Int)(hc:mD N x∉c):GF N (pre++[x]) (c++[mD N x]) ((Ls++[[]]).set c.length ([]++[x])) where
 nd:=by rw[List.nodup_append];exact⟨h.nd,iH,λa ha b j e=>hc (by rw[<-List.mem_singleton.1 j,<-e];exact ha)⟩
 ln:=by rw[aC,aA,aA,h.ln];rfl
 grp:=λi k hi=>by
  rw[JY,mZ];by_cases e:c.length=i
  ·subst e
   rw[aT (bD _),bU]at hi;obtain rfl:=Option.some.inj hi;rw[gY ⟨rfl,by rw[aA,h.ln];exact bG _⟩,gY rfl]
   congr 1
   symm
   rw[aZ];intro y hy e;exact hc (by rw[<-of_decide_eq_true e];exact h.all y hy)
  ·have g:i<c.length:=by
    have:=(au.1 hi).1;rw[aA]at this;have d:i<c.length+1:=this;omega
   rw[aH g]at hi;rw[gZ (λf=>e f.1),gZ,bI,<-h.grp i k hi]
   ·rw[af,af,aH (by rw[h.ln];exact g)]
   ·intro f
    exact hc (by rw[f];exact bn hi)
 all:=λy hy=>by
  rcases bJ.1 hy with d|d
  ·exact List.mem_append_left _ (h.all y d)
  ·have:y=x:=by simpa using d
   rw[this];simp
structure TR (base:Nat)(vs:List aj)(Ls:List (List Int))(wr:ay):Prop where
 vl:vs.length=Ls.length
 rows:∀c,c<Ls.length->wr.ownsRow base 3 1 (vs.getD c jr) (Ls.getD c []).length ((Ls.getD c []).map (aQ .i64))
 sep:∀c c',c<Ls.length->c'<Ls.length->c≠c'->(vs.getD c jr).ownBlock=aN\/(vs.getD c jr).ownBlock≠(vs.getD c' jr).ownBlock
section
variable {base:Nat} {vs:List aj} {Ls:List (List Int)} {wr:ay}
theorem TR.start (base:Nat)(wr:ay):TR base [] [] wr:=⟨rfl,λc h=>absurd h (aP _),λc _ h=>absurd h (aP _)⟩
theorem TR.grown {w':ay}{mb:Nat}(h:TR base vs Ls wr)(a:mb<base)(b:wr.grownBy w' (aB mb)):TR base vs Ls w':=⟨h.vl,λc hc=>uN (h.rows c hc) a b,h.sep⟩
theorem TR.new {w':ay}(h:TR base vs Ls wr)(a:wr.grownBy w' aN):TR base vs Ls w':=⟨h.vl,λc hc=>(h.rows c hc).kept a (by
 cases(vs.getD c jr).ownBlock with
 |none=>exact .inl rfl
 |some b=>exact .inr iH),h.sep⟩
theorem JZ {w w':ay}(h:Below w.heap.size w w'):w.grownBy w' aN:=⟨h.os,h.tape,h.output,h.size,λk a _=>h.block k a⟩
theorem TR.below {w':ay}(h:TR base vs Ls wr)(a:Below wr.heap.size wr w'):TR base vs Ls w':=h.new (JZ a)
theorem TR.alloc (h:TR base vs Ls wr)(o:Obj):TR base vs Ls (wr.alloc o):=h.new (World.grownBy_alloc wr o aN)
theorem TR.drew (h:TR base vs Ls wr):TR base vs Ls wr.drew:=⟨h.vl,λc hc=>(h.rows c hc).drew,h.sep⟩
theorem Aj {α:Type}(l:List α)(x d:α)(c:Nat)(h:c<l.length):(l++[x]).getD c d=l.getD c d:=by rw[af,af,aH h]
theorem yX {α:Type}(l:List α)(x d:α)(c:Nat)(h:c=l.length):(l++[x]).getD c d=x:=by subst h;rw[af,aT (bD _),bU];rfl
theorem TR.VO (h:TR base vs Ls wr):TR base (vs++[jr]) (Ls++[[]]) wr:=by
 have hv:=h.vl;have a:(Ls++[[]]).length=Ls.length+1:=by rw[aA];rfl
 refine⟨by rw[aA,a,hv];rfl,λc hc=>?_,λc d hc f g=>?_⟩
 ·rw[a]at hc
  by_cases e:c<Ls.length
  ·rw[Aj _ _ _ _ iE,Aj _ _ _ _ e];exact h.rows c e
  ·rw[yX _ _ _ _ iE,yX _ _ _ _ iE];exact World.ownsRow_nil _ _ _ _
 ·rw[a]at hc f
  by_cases e:c<Ls.length
  ·by_cases e':d<Ls.length
   ·rw[Aj _ _ _ _ iE,Aj _ _ _ _ iE];exact h.sep c d e e' g
   ·rw[Aj _ _ _ _ iE,yX _ _ _ d iE]
    cases i:(vs.getD c jr).ownBlock with
    |none=>exact .inl rfl
    |some b=>exact .inr (by simp[jr,Value.ownBlock])
  ·rw[yX _ _ _ c iE];exact .inl rfl
theorem TR.push (h:TR base vs Ls wr){c:Nat}(hc:c<Ls.length)(L:List Int)(v':aj)(w':ay)(n:wr.grownBy w' (vs.getD c jr).ownBlock)(o:w'.ownsRow base 3 1 v' L.length (L.map (aQ .i64)))
  (l:∀k,v'.ownBlock=aB k->(vs.getD c jr).ownBlock=aB k\/wr.heap.size<=k):TR base (vs.set c v') (Ls.set c L) w':=by
 have p:=h.vl;refine⟨by rw[aC,aC];exact h.vl,?_,?_⟩
 ·intro k a
  rw[aC]at a;rw[mZ,mZ];by_cases d:c=k
  ·subst d
   rw[gY ⟨rfl,iE⟩,gY ⟨rfl,iE⟩];exact o
  ·rw[gZ (λe=>d e.1),gZ (λe=>d e.1)]
   exact(h.rows k a).kept n (h.sep k c a hc (λe=>d e.symm))
 ·intro k k' a i j
  rw[aC]at a i;rw[mZ,mZ];by_cases d:c=k
  ·subst d
   rw[gY ⟨rfl,iE⟩,gZ (λe=>j e.1)];cases g:v'.ownBlock with
   |none=>exact .inl rfl
   |some b=>
    refine .inr λe=>?_
    rcases l b g with f|f
    ·rcases h.sep c k' hc i j with e3|e3
     ·rw[e3]at f;cases f
     ·exact e3 (f.trans e)
    ·have:=((h.rows k' i).lt b e.symm).2
     omega
  ·rw[gZ (λe=>d e.1)]
   by_cases m:c=k'
   ·subst m
    rw[gY ⟨rfl,iE⟩];cases g:(vs.getD k jr).ownBlock with
    |none=>exact .inl rfl
    |some b=>
     refine .inr λe=>?_
     rcases l b e.symm with f|f
     ·rcases h.sep k c a hc j with e3|e3
      ·rw[e3]at g;cases g
      ·exact e3 (g.trans f.symm)
     ·have:=((h.rows k a).lt b g).2
      omega
   ·rw[gZ (λe=>m e.1)]
    exact h.sep k k' a i j
end
structure TM (w:ay)(bx:Array aj)(H:Nat)(nc:Array aj)(ks:List (Int×ByteArray))(vs:List aj)(Ls:List (List Int))(wr:ay):Prop where
 tw:TW w bx wr
 Ff:wr.heap[H]?=aB (.cells nc 150)
 map:MapAt wr aS 99 (H+1) ((ks.map encS).zip vs)
 tr:TR (H+2) vs Ls wr
 lo:w.heap.size<H
theorem VQ {w:ay}{b:Array aj}{wr:ay}(h:TW w b wr)(a:Array aj):TM w b wr.heap.size a [] [] [] ((wr.alloc (.cells a 150)).alloc (.map #[] 0)):=by
 have c:(wr.alloc (.cells a 150)).heap.size=wr.heap.size+1:=iH
 refine⟨(h.alloc _).alloc _,?_,?_,TR.start _ _,block_lt h.box⟩
 ·rw[bT _ _ _ iH];exact aJ wr _
 ·have:=UR (wr.alloc (.cells a 150)) aS 99
  rw[c]at this;exact this
theorem TM.new {w:ay}{b:Array aj}{H:Nat}{c:Array aj}{d:List (Int×ByteArray)}{vs:List aj}{Ls:List (List Int)}{wr w':ay}(h:TM w b H c d vs Ls wr)(a:Below wr.heap.size wr w'):TM w b H c d vs Ls w':=
 ⟨⟨h.tw.below.trans (a.mono h.tw.below.size),Mix.lu a h.tw.box⟩,Mix.lu a h.Ff,h.map.of_block (a.block _ h.map.lt),h.tr.below a,h.lo⟩
theorem TM.drew {w:ay}{a:Array aj}{H:Nat}{b:Array aj}{c:List (Int×ByteArray)}{vs:List aj}{Ls:List (List Int)}{wr:ay}(h:TM w a H b c vs Ls wr):TM w a H b c vs Ls wr.drew:=
 ⟨h.tw.drew,h.Ff,h.map,h.tr.drew,h.lo⟩
theorem VR {a:List (Int×ByteArray)}{vs:List aj}{c:Nat}{k:Int×ByteArray}(b:vs.length=a.length)(hc:a[c]?=aB k):((a.map encS).zip vs)[c]?=aB (encS k,vs.getD c jr):=by have d:=(au.1 hc).1;rw[ax];exact⟨by rw[aU,hc];rfl,by rw[af,ah iE,aW]⟩
theorem VS {a:List (Int×ByteArray)}{vs:List aj}{c:Nat}{k:Int×ByteArray}(hn:a.Nodup)(hc:a[c]?=aB k)(j:Nat)(q:aj×aj)(e:((a.map encS).zip vs)[j]?=aB q)(f:q.1 =encS k):j=c:=by have b:=(ax.1 e).1;rw[aU,Option.map_eq_some_iff]at b;obtain⟨k',d,g⟩:=b;have:k'=k:=JX (g.trans f);subst this;exact(bu (au.1 d).1 hn).1 (d.trans hc.symm)
theorem J3 {a:List (Int×ByteArray)}{vs:List aj}{k:Int×ByteArray}(hc:k∉a):∀p∈(a.map encS).zip vs,p.1 ≠encS k:=by intro p hp e;have b:p.1 ∈a.map encS:=(List.of_mem_zip hp).1;obtain⟨k',c,d⟩:=List.mem_map.1 b;exact hc (by rw[<-JX (d.trans e)];exact c)
theorem VT {a:List (Int×ByteArray)}{vs:List aj}{c:Nat}(v:aj):(((a.map encS).zip vs).modify c λp=>(p.1,v))=(a.map encS).zip (vs.set c v):=by
 apply List.ext_getElem?;intro i;rw[List.getElem?_modify];by_cases e:c=i
 ·subst e
  simp only[if_true,bz];cases b:((a.map encS).zip vs)[c]? with
  |none=>
   symm
   rw[Option.map_none,aV,aY,aC];rw[aV,aY]at b;exact b
  |some q=>
   symm
   have d:=ax.1 b;have f:=(au.1 d.2).1;rw[Option.map_some,ax];exact⟨d.1,by rw[List.getElem?_set_self f]⟩
 ·simp only[e,if_false,bz,Option.map_id']
  apply Option.ext;intro q;rw[ax,ax,List.getElem?_set_ne e]
theorem VU {a:List (Int×ByteArray)}{vs:List aj}(b:vs.length=a.length)(k:Int×ByteArray)(v:aj):(a.map encS).zip vs++[(encS k,v)]=((a++[k]).map encS).zip (vs++[v]):=by
 rw[bK,List.zip_append (by rw[bP];exact b.symm)]
 rfl
theorem TM.step {w:ay}{l:Array aj}{H:Nat}{m:Array aj}{u:List (Int×ByteArray)}{vs:List aj}{v:List (List Int)}{Y w3:ay}(h:TM w l H m u vs v Y)(o:Obj)(n:(Y.alloc o).grownBy w3 (aB (H+1)))(q:w3.heap.size=(Y.alloc o).heap.size)
  (r:List (Int×ByteArray))(b:List aj)(g:List (List Int))(c:Nat)(s:TR (H+2) b g w3)(hc:c<g.length)(L:List Int)(v':aj)(d:ay){i:ay}(f:w3.grownBy d (b.getD c jr).ownBlock)
  (x:d.ownsRow (H+2) 3 1 v' L.length (L.map (aQ .i64)))(y:∀k,v'.ownBlock=aB k->(b.getD c jr).ownBlock=aB k\/w3.heap.size<=k)(j:d.grownBy i (aB (H+1)))
  (z:MapAt i aS 99 (H+1) (((r.map encS).zip b).modify c λp=>(p.1,v'))):TM w l H m r (b.set c v') (g.set c L) i:=by
 have A:=h.lo;have B:=h.map.lt;have t:∀k,(b.getD c jr).ownBlock=aB k->H+2<=k:=λk a=>((s.rows c hc).lt k a).1
 refine⟨(((h.tw.alloc o).grown n (λk a=>by have:=Option.some.inj a;omega)).grown f (λk a=>by have:=t k a;omega)).grown j (λk a=>by have:=Option.some.inj a;omega),?_,by rw[<-VT];exact z,(s.push hc L v' d f x y).grown iE j,A⟩;rw[j.block _ (by have:=f.size;rw[jl]at q;omega) (by intro e;have:=Option.some.inj e;omega),f.block _ (by rw[jl]at q;omega) (λe=>by have:=t _ e.symm;omega),n.block _ (by rw[jl];omega) (by intro e;have:=Option.some.inj e;omega),bT _ _ _ iE];exact h.Ff
theorem VY {w:ay}{base n c:Nat}{e:TypeId}{p:Option Addr}{L:List Int}(h:w.ownsRow base e 1 (.slice p n c) L.length (L.map (aQ .i64))){m:Nat}(hm:m<L.length):∃g,p=aB ⟨g,0,aN⟩/\w.cell? ⟨g,m,aN⟩=aB (.int .i64 L[m]):=by
 have d:=h;rcases h.2 with⟨a,f⟩|⟨g,cap,i,a,-⟩
 ·rw[f]at hm;exact absurd hm (aP _)
 ·cases a
  have b:=d.cells rfl m (.int .i64 L[m]) (by rw[aU,ah hm];rfl);rw[Lib.add_plain,Nat.zero_add]at b;exact⟨g,rfl,b⟩
theorem any_take_succ {α:Type}(l:List α)(p:α->Bool)(i:Nat)(h:i<l.length):(l.take (i+1)).any p=((l.take i).any p||p l[i]):=by rw[aO h,List.any_append];simp
theorem J4 {α:Type}(l:List α)(p:α->Bool)(i:Nat)(h:i<l.length)(hp:p l[i]=true):l.any p=true:=List.any_eq_true.2 ⟨l[i],az h,hp⟩
theorem VZ {N:List Nd}{k:Nat}(a:k<N.length):mD N (k:Int)=(N[k].kind,N[k].text):=by unfold mD;rw[aK,af,ah a,aW]
theorem V4 (w:ay)(v:aj)(N:List Nd)(root:Int)(K:Nat->Prop)(be:Nat->Nat)(f:Nat)(b5:jJ w v N)(hR:nN N)(hF:yS N)(b6:yV N)(b7:uT N K be)(b8:∀n∈N,∀x∈n.keys,K x.toNat)(hf:∀i,K i->be i<f)(b9:∀n∈N,n.keys.length<=4096):
  Calls aS 106 #[.agg #[v,.int .i64 root]] w λe w'=>e=.returned (.bool (Ai N f))/\Below w.heap.size w w':=by
 have cL:=ae b5;have cM:=ae hR;have cN:=ae hF;have ca:=ae (iJ b8 b9);have cO:=ae (λ(i j:Nat) (X:ay) (bf:jJ X v N) (hi:K i) (cb:j<N.length)=>VX N v root K be hR b6 b7 f i j X bf hi cb (hf i hi));obtain⟨va,vc,rfl,dp,cc⟩:=b5;have cP:=ae cc;have cQ:PLift (TW w #[.slice va N.length vc,.int .i64 root] (w.alloc (.cells #[.slice va N.length vc,.int .i64 root] 117))):=⟨⟨(Below.refl _ w).alloc (bD _) _,aJ w _⟩⟩;have dq:=@run_makeMap aS;clear hR cc hF b6 b7 b8 hf b9
 as_aux_lemma=>
 go_enter Tryz.func106,Tryz.ntmps106
 as_aux_lemma=>
 go_wp2
 go_loopw [14] (λa3 wr=>∃i:Nat,a3=.int .i64 i/\i<=N.length/\TW w #[.slice va N.length vc,.int .i64 root] wr/\(N.take i).any (λn=>ql N f [] n.keys)=false) (λa3 _=>N.length - (intOf a3).toNat)
 case atStart=>exact⟨0,rfl,bF _,cQ.1,rfl⟩
 case round=>
  as_aux_lemma=>
  obtain⟨i,rfl,hi,C,cd⟩:=hrel;have bg:=ae (iJ C cd);clear cd;by_cases t:i<N.length
  ·have dr:(i:Int)<(N.length:Int):=iE
   rcases cP.1 with cR|⟨b,o,rfl,bh⟩
   ·exfalso;rw[cR]at t;exact aP _ t
   have ce:=bh i N[i] (ah t);have bi:=cM.1 N[i] (az t);have bj:=ca.1.1 N[i] (az t);have z:=ca.1.2 N[i] (az t);have cf:=ae (λhd:ql N f [] N[i].keys=true=>show Ai N f=true from J4 N (λn=>ql N f [] n.keys) i t hd);have cg:=ae (any_take_succ N (λn=>ql N f [] n.keys) i t);have ch:=ae t;generalize N[i]=n at ce bi bj z cf cg;have a4:=ae (iJ bi (iJ bj z));have cS:=ae bh;obtain⟨ds,a3,ci,cj,ck,cl,cm,cn,cT⟩:=ce;have cU:=ae cn;obtain⟨co,cp,rfl,dt,-⟩:=cn;obtain⟨cq,cr,rfl,du,-⟩:=cT;have d0:=iU C.below ci;have dv:=iU C.below cj;have dx:=iU C.below ck;have dy:=iU C.below cl;have dz:=iU C.below cm;have cV:=ae (VQ C #[.int .i64 n.kind,.string n.text,.bool n.ord,.slice co n.keys.length cp,.slice cq n.items.length cr]);clear bh C bi bj z ci cj ck cl cm t;obtain⟨W0,cW⟩:∃W0:ay,W0=wr:=⟨_,rfl⟩;subst cW
   as_aux_lemma=>
   go_wp2
   go_loopw [22] (λbk wr=>∃(j:Nat) (d:List (Int×ByteArray)) (vs:List aj) (s:List (List Int)),bk=.int .i64 j/\j<=n.keys.length/\TM w #[.slice (aB ⟨b,o,aN⟩) N.length vc,.int .i64 root] W0.heap.size #[.int .i64 n.kind,.string n.text,.bool n.ord,.slice co n.keys.length cp,.slice cq n.items.length cr] d vs s wr/\GF N (n.keys.take j) d s/\ql N f [] n.keys=ql N f (n.keys.take j) (n.keys.drop j)) (λbk _=>n.keys.length - (intOf bk).toNat)
   case atStart=>exact⟨0,[],[],[],rfl,bF _,cV.1,GF.start N,rfl⟩
   case round=>
    as_aux_lemma=>
    obtain⟨j,d,vs,s,rfl,cb,P,cs,W⟩:=hrel;have ct:=ae P;have A:=ae cs;clear cs;by_cases F:j<n.keys.length
    ·have dS:(j:Int)<(n.keys.length:Int):=iE
     have hx:=a4.1.1.1 n.keys[j] (az F);have a5:=a4.1.2.1 n.keys[j] (az F);obtain⟨dT,lo,rfl,cv⟩:=(cU.1.below P.tw.below).at F;have cw:n.keys.getD j 0=n.keys[j]:=(by rw[af,ah F,aW]);rw[cw]at cv;have ac:=ae (aO F);rw[List.drop_eq_getElem_cons F]at W;have a6:=ae F;have cx:∀y∈n.keys.take j,0<=y/\y<(N.length:Int):=λy hy=>a4.1.1.1 y (List.mem_of_mem_take hy)
     generalize n.keys[j]=x at hx a5 cv ac W;obtain⟨k,rfl⟩:=Int.eq_ofNat_of_zero_le hx.1;rw[aK]at a5;have a7:k<N.length:=(by have:=hx.2;omega);have d1:(k:Int)<(N.length:Int):=hx.2;have cX:=cS.1 k N[k] (ah a7);have bl:=cN.1 N[k] (az a7);have a8:=VZ a7;obtain⟨-,-,cy,cz,-⟩:=cX;have cA:=iU P.tw.below cy;have e1:=iU P.tw.below cz;have Y:=ae (UW N[k].kind N[k].text bl.1 bl.2);generalize N[k].kind=G at a8 cA Y;generalize N[k].text=H at a8 e1 Y;have cY:=iK P.tw.box 0 (.slice (aB ⟨b,o,aN⟩) N.length vc);have d2:=λl=>iU (iW wr l) cY
     have d3:=λl=>iU (iW wr l) cA
     have d4:=λl=>iU (iW wr l) e1
     have bm:=ae a8
     have c0:=ae (λ(y:Int) (X:ay) (bf:Below w.heap.size w X) (c1:0<=y) (d5:y<(N.length:Int))=>show Calls aS 121 #[.agg #[.slice (aB ⟨b,o,aN⟩) N.length vc,.int .i64 root],.int .i64 (k:Nat),.int .i64 y] X (λe w'=>e=.returned (.bool (jy N f k y.toNat))/\Below X.heap.size X w')from by have h:=cO.1 k y.toNat X (cL.1.below bf) a5 iE;rw[Int.toNat_of_nonneg c1]at h;exact h)
     have bo:=ae W;have c2:=ae cx;obtain⟨Q,a9⟩:=iC ((wr.alloc (.cells #[.int .i64 G,.string H] 99)).drew);have Z:=ae (ct.1.new (iW wr (.cells #[.int .i64 G,.string H] 99))).drew;rw[a9]at Z;have B:PLift (Q.heap[wr.heap.size]?=aB (.cells #[.int .i64 G,.string H] 99)):=⟨by rw[<-a9];exact aJ wr _⟩;clear P cy cz bl hx a7 a8 W cx a5 F cw
     as_aux_lemma=>
     go_wp2;go_region
     (try rw[a9])
     have I:=(ag B.1 0).trans rfl;have J:=(ag B.1 1).trans rfl;have cB:=ae Z.1.map;clear a9;by_cases aa:mD N (k:Int)∈d
     ·obtain⟨c,bp,cC⟩:=List.getElem_of_mem aa
      have ad:d[c]?=aB (mD N (k:Int)):=(by rw[ah bp,cC]);have z:vs.length=d.length:=(by rw[Z.1.tr.vl,A.1.ln]);have bq:c<s.length:=(by rw[A.1.ln];exact bp);have q:=Z.1.tr.rows c bq;have ai:=A.1.grp c _ ad;obtain⟨L,br⟩:=iC (s.getD c []);rw[br]at q ai;obtain⟨pv,bs,bt⟩:=mW q;have ba:=ae (VR z ad);have bv:=ae (VS (vs:=vs) A.1.nd ad);rw[bt]at ba q;rw[bm.1]at ba bv;have c3:=ae ad;have c4:=ae bq;have c5:=ae bt;have cD:=ae br;have c6:=ae q;have cE:∀y∈L,0<=y/\y<(N.length:Int):=λy hy=>c2.1 y (by rw[ai]at hy;exact(List.mem_filter.1 hy).1)
      have c7:=ae cE;have cF:=ae ai;have bw:PLift (L.length<=4096):=⟨by rw[ai];exact bV (List.length_filter_le ..) (bV (List.length_take_le' ..) a4.1.2.2)⟩;have d6:(L.length:Int)<=4096:=(by have:=bw.1;omega);clear bp cC ad z bq q ai bt br aa cE
      as_aux_lemma=>
      go_wp2_with(refine VM _ rfl _ _ _ rfl 99 36 CQ aI (W0.heap.size+1) _ rfl cB.1 _ rfl Y.1 c _ ba.1 bv.1 ?_)
      go_loopw [43] (λak a=>∃m:Nat,ak=.int .i64 m/\m<=L.length/\Below Q.heap.size Q a/\(L.take m).any (λy=>jy N f k y.toNat)=false) (λak _=>L.length - (intOf ak).toNat)
      case atStart=>exact⟨0,rfl,bF _,Below.refl _ _,rfl⟩
      case round=>
       as_aux_lemma=>
       obtain⟨m,rfl,hm,M,cG⟩:=hrel;obtain⟨a,bx⟩:∃a:ay,a=wr:=⟨_,rfl⟩;subst bx;have g:=ae (Z.1.new M);have al:=ae (iJ M cG);have B:=ae (Mix.lu M B.1);clear M cG I J;by_cases ab:m<L.length
       ·have d7:(m:Int)<(L.length:Int):=iE
        obtain⟨d8,c8,c9⟩:=VY (c6.1.kept (JZ al.1.1) (by cases(Value.slice pv L.length bs).ownBlock with|none=>exact .inl rfl|some b=>exact .inr iH)) ab;subst c8;have bb:=c7.1 L[m] (az ab);have cH:=ae (any_take_succ L (λy=>jy N f k y.toNat) m ab);have cI:=ae (λh=>J4 L (λy=>jy N f k y.toNat) m ab h);have cJ:=ae ab;generalize L[m]=y at c9 bb cH cI;have bc:=ae (c0.1 y _ g.1.tw.below bb.1 bb.2);have g0:=(ag g.1.tw.box 0).trans rfl;have g1:=(ag g.1.tw.box 1).trans rfl;clear bb ab;cases bd:jy N f k y.toNat with
        |true=>
         rw[bd]at bc
         have bA:=ae (cf.1 (bo.1.trans (by show(((n.keys.take j).filter (λy=>decide (mD N y=mD N (k:Int)))).any (λy=>jy N f ((k:Int)).toNat y.toNat)||_)=true;rw[<-cF.1,aK,cI.1 bd,Bool.true_or])))
         as_aux_lemma=>
         go_wp2_with(go_at_call 121;refine bc.1.mono ?_;rintro e da ⟨rfl,am⟩;have bB:=ae am;clear am)
         go_ret;exact⟨by rw[bA.1];rfl,g.1.tw.below.trans (bB.1.mono g.1.tw.below.size)⟩
        |false=>
         rw[bd]at bc;have db:=ae bd
         as_aux_lemma=>
         go_wp2_with(go_at_call 121;refine bc.1.mono ?_;rintro e da ⟨rfl,am⟩;have bB:=ae am;clear am)
         go_roundw
         case rel=>exact⟨m+1,by go_num,by have:=cJ.1;omega,al.1.1.trans (bB.1.mono al.1.1.size),by rw[cH.1,al.1.2,db.1];rfl⟩
         case measure=>have:=cJ.1;simp[intOf];omega
       ·obtain rfl:m=L.length:=iE
        have bE:PLift (ql N f [] n.keys=ql N f (n.keys.take (j+1)) (n.keys.drop (j+1))):=⟨by rw[bo.1,ac.1];show(((n.keys.take j).filter (λy=>decide (mD N y=mD N (k:Int)))).any (λy=>jy N f ((k:Int)).toNat y.toNat)||_)=_;have h:=al.1.2;rw[bH]at h;rw[<-cF.1,aK,h,Bool.false_or]⟩
        as_aux_lemma=>
        have I:=(ag B.1 0).trans rfl;have J:=(ag B.1 1).trans rfl;have bL:=λl=>iU (iW a l) I
        have bM:=λl=>iU (iW a l) J
        have bN:=ae (g.1.new (iW a (.cells #[.int .i64 k] 3))).map;have bO:PLift ((a.alloc (.cells #[.int .i64 k] 3)).heap[a.heap.size]?=aB (.cells #[.int .i64 k] 3)):=⟨aJ a _⟩;have an:=ae g.1.map.lt
        go_wp2_with(refine VN _ rfl _ _ _ rfl 99 36 CQ aI (W0.heap.size+1) _ rfl bN.1 _ rfl Y.1 c _ ba.1 bv.1 ?_)
        intro st w3 O D R;have ao:=ae ((g.1.tr.alloc (.cells #[.int .i64 k] 3)).grown (mb:=W0.heap.size+1) iE D);have ap:PLift (c<s.length):=⟨c4.1⟩;have S:vs.getD c jr=.slice pv L.length bs:=c5.1;have aq:s.getD c []=L:=cD.1;have q:=ao.1.rows c ap.1;rw[aq,S]at q;obtain⟨bR,ar,av,aw,aD⟩:=info_parts su;have E:=ae (iJ ar (iJ av (iJ aw aD)))
        have aE:w3.heap[a.heap.size]?=aB (.cells #[.int .i64 k] 3):=by rw[D.block _ (by rw[jl];omega) (by intro e;have:=Option.some.inj e;have:=an.1;omega)];exact bO.1
        have aF:=iK aE 0 (.int .i64 k);have aG:=ae (iJ D R);have aL:=ae O;have bS:=ae aF;have aM:=ae q;have aR:=ae S;have bX:PLift (W0.heap.size+2<=w3.heap.size):=⟨by rw[R];(try rw[jl]);have:=an.1;omega⟩;clear ar av aw aD aE aF D R O q S aq I J bL bM
        go_wp2_with(refine wG _ rfl _ _ 36 rfl (W0.heap.size+2) 3 bR (.int .i64 0) 1 8 bC E.1.1 E.1.2.1 E.1.2.2.1 E.1.2.2.2 rfl iG (.slice pv L.length bs) (L).length ((L).map (aQ .i64)) rfl aM.1 ⟨a.heap.size,0,aN⟩ 1 1 [.int .i64 k] rfl rfl (by intro j2 u r;match j2,r with|0,r=>simp only[aX,Option.some.injEq]at r;subst r;exact bS.1|j2+1,r=>simp at r) (by simp[bQ]) iG (by have:=bw.1;unfold maxLen;omega) (by have:=bw.1;omega) bX.1 ?_)
        intro v' b0 T U a0;have b1:=ae (aL.1.of_block (U.block _ aL.1.lt (by intro e;have:=(aM.1.lt _ e.symm).1;omega)));obtain⟨dc,dd,b2⟩:=mW T;subst b2;have V:=ae (iJ T (iJ U a0));clear T U a0
        go_wp2_with(refine JK _ rfl _ _ _ _ rfl 99 (W0.heap.size+1) _ _ _ rfl b1.1 rfl _ rfl ?_)
        intro de a1 a2 b3;have b4:=ae (g.1.step (.cells #[.int .i64 k] 3) aG.1.1 (by(try rw[jl]);exact aG.1.2) d vs s c ao.1 ap.1 (L++[(k:Int)]) _ b0 (by rw[aR.1];exact V.1.2.1) (by simpa using V.1.1) (by rw[aR.1];exact V.1.2.2) a2 a1);clear a1 a2 b3;go_wp2;go_roundw
        case rel=>exact⟨j+1,_,_,_,by go_num,by have:=a6.1;omega,b4.1,by rw[ac.1];exact cD.1▸A.1.old (k:Int) c c3.1,bE.1⟩
        case measure=>have:=a6.1;simp[intOf];omega
     ·have df:=ae aa
      have cK:PLift ((G,H)∉d):=⟨by rw[<-bm.1];exact aa⟩;have dg:=ae (λp hp=>J3 (vs:=vs) cK.1 p hp)
      have bE:PLift (ql N f [] n.keys=ql N f (n.keys.take (j+1)) (n.keys.drop (j+1))):=⟨by
       rw[bo.1,ac.1];show(((n.keys.take j).filter (λy=>decide (mD N y=mD N (k:Int)))).any (λy=>jy N f ((k:Int)).toNat y.toNat)||_)=_;rw[aZ.2 (λy hy e=>aa (by rw[<-of_decide_eq_true e];exact A.1.all y hy))]
       rfl⟩
      clear aa
      as_aux_lemma=>
      go_wp2_with(refine UX _ rfl _ _ _ rfl 99 36 CQ aI _ JL (W0.heap.size+1) _ rfl cB.1 _ rfl Y.1 dg.1 ?_)
      go_loopw [43] (λak a=>ak=.int .i64 0/\Below Q.heap.size Q a) (λ_ _=>0)
      case atStart=>exact⟨rfl,Below.refl _ _⟩
      case round=>
       as_aux_lemma=>
       obtain⟨rfl,M⟩:=hrel;obtain⟨a,bx⟩:∃a:ay,a=wr:=⟨_,rfl⟩;subst bx;have g:=ae (Z.1.new M);have B:=ae (Mix.lu M B.1);clear M I J;have I:=(ag B.1 0).trans rfl;have J:=(ag B.1 1).trans rfl;have bL:=λl=>iU (iW a l) I
       have bM:=λl=>iU (iW a l) J
       have bN:=ae (g.1.new (iW a (.cells #[.int .i64 k] 3))).map;have bO:PLift ((a.alloc (.cells #[.int .i64 k] 3)).heap[a.heap.size]?=aB (.cells #[.int .i64 k] 3)):=⟨aJ a _⟩;have an:=ae g.1.map.lt;have dj:=ae (λp hp=>J3 (vs:=vs) cK.1 p hp)
       go_wp2_with(refine UY _ rfl _ _ _ rfl 99 36 CQ aI _ JL (W0.heap.size+1) _ rfl bN.1 _ rfl Y.1 dj.1 ?_)
       intro st w3 O D R;have z:vs.length=d.length:=(by rw[g.1.tr.vl,A.1.ln]);rw[show((d.map encS).zip vs++[((.agg #[.int .i64 G,.string H]),(.slice aN 0 0:aj))])=((d++[(G,H)]).map encS).zip (vs++[jr])from VU z (G,H) jr]at O;have dk:min d.length vs.length=d.length:=by rw[z,Nat.min_self]
       (try rw[aY,bP]at O)
       rw[dk]at O;have ao:=ae ((g.1.tr.alloc (.cells #[.int .i64 k] 3)).VO.grown (mb:=W0.heap.size+1) iE D);have ap:PLift (d.length<(s++[[]]).length):=⟨by rw[aA,A.1.ln];exact bG _⟩;have S:(vs++[jr]).getD d.length jr=jr:=yX _ _ _ _ z.symm;have aq:(s++[[]]).getD d.length []=[]:=yX _ _ _ _ A.1.ln.symm;have q:=ao.1.rows d.length ap.1;rw[aq,S]at q;obtain⟨bR,ar,av,aw,aD⟩:=info_parts su;have E:=ae (iJ ar (iJ av (iJ aw aD)))
       have aE:w3.heap[a.heap.size]?=aB (.cells #[.int .i64 k] 3):=by rw[D.block _ (by rw[jl];omega) (by intro e;have:=Option.some.inj e;have:=an.1;omega)];exact bO.1
       have aF:=iK aE 0 (.int .i64 k);have aG:=ae (iJ D R);have aL:=ae O;have bS:=ae aF;have aM:=ae q;have aR:=ae S;have bX:PLift (W0.heap.size+2<=w3.heap.size):=⟨by rw[R];(try rw[jl]);have:=an.1;omega⟩;clear ar av aw aD aE aF D R O q S aq I J bL bM
       go_wp2_with(refine wG _ rfl _ _ 36 rfl (W0.heap.size+2) 3 bR (.int .i64 0) 1 8 bC E.1.1 E.1.2.1 E.1.2.2.1 E.1.2.2.2 rfl iG (.slice aN 0 0) (([]:List Int)).length ((([]:List Int)).map (aQ .i64)) rfl aM.1 ⟨a.heap.size,0,aN⟩ 1 1 [.int .i64 k] rfl rfl (by intro j2 u r;match j2,r with|0,r=>simp only[aX,Option.some.injEq]at r;subst r;exact bS.1|j2+1,r=>simp at r) (by simp[bQ]) iG (by simp[maxLen]) iH bX.1 ?_)
       intro v' b0 T U a0;have b1:=ae (aL.1.of_block (U.block _ aL.1.lt (by intro e;have:=(aM.1.lt _ e.symm).1;omega)));obtain⟨dc,dd,b2⟩:=mW T;subst b2;have V:=ae (iJ T (iJ U a0));clear T U a0
       go_wp2_with(refine JK _ rfl _ _ _ _ rfl 99 (W0.heap.size+1) _ _ _ rfl b1.1 rfl _ rfl ?_)
       intro de a1 a2 b3;have b4:=ae (g.1.step (.cells #[.int .i64 k] 3) aG.1.1 (by(try rw[jl]);exact aG.1.2) (d++[(G,H)]) (vs++[jr]) (s++[[]]) d.length ao.1 ap.1 (([]:List Int)++[(k:Int)]) _ b0 (by rw[aR.1];exact V.1.2.1) (by simpa using V.1.1) (by rw[aR.1];exact V.1.2.2) a2 (by rw[bK];exact a1));clear a1 a2 b3;go_wp2;go_roundw
       case rel=>exact⟨j+1,_,_,_,by go_num,by have:=a6.1;omega,b4.1,by rw[ac.1];have h:=A.1.new (k:Int) df.1;rw[bm.1]at h;exact h,bE.1⟩
       case measure=>have:=a6.1;simp[intOf];omega
    ·obtain rfl:j=n.keys.length:=iE
     have dl:PLift (ql N f [] n.keys=false):=⟨by rw[W,List.drop_length];rfl⟩;clear P W;go_wp2;go_roundw
     case rel=>exact⟨i+1,by go_num,by have:=ch.1;omega,ct.1.tw,by rw[cg.1,bg.1.2,dl.1];rfl⟩
     case measure=>have:=ch.1;simp[intOf];omega
  ·obtain rfl:i=N.length:=iE
   have bA:PLift (Ai N f=false):=⟨by have h:=bg.1.2;rw[bH]at h;exact h⟩;clear C;go_wp2;go_ret;exact⟨by rw[bA.1];rfl,bg.1.1.below⟩
