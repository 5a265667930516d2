import Derived.Test.YthcalnnipjflkaaGreatDoorP37
import Derived.Test.YthcalnnipjflkaaGreatDoorP38
open PLift renaming up -> ae
open Go.Lib renaming cell_of_heap -> af, frozen_of_heap -> aT, IsBuilder -> bC, alloc_old -> bD, toList_data -> cZ
open Option renaming none -> ag, some -> aj
open List renaming getElem?_eq_getElem -> ah, length_append -> au, getD_eq_getElem?_getD -> ax, replicate -> ay, length_nil -> az, length_cons -> aA, getElem_mem -> aJ, append_assoc -> aU, mem_append_right -> aV, range -> aX, append_nil -> aY, mem_append_left -> bn, getElem?_replicate -> bH, flatMap_append -> bQ, cons_append -> bY, range_succ -> bZ, nil_append -> cu
open Array renaming getElem?_eq_some_iff -> aB
open Go renaming bodyPost_ret -> aC, World -> aK, Value -> aP, heap_alloc_new -> aW, Calls -> bU
open Int renaming toNat_natCast -> aH, eq_ofNat_of_zero_le -> aI
open Nat renaming le_trans -> aN, le_refl -> aO, not_lt_zero -> aQ, lt_of_lt_of_le -> bz, lt_succ_self -> bG, zero_le -> bV, sub_self -> dm
open Bool renaming false -> aS, true -> bJ
open Go.Proofs.Tryz renaming prog -> aZ, results58 -> bu, ntmps76 -> bF, func76 -> bI, results73 -> bK, results64 -> bP, ntmps73 -> bT, func73 -> bW, results76 -> dh, ntmps64 -> di, ntmps58 -> dn, func64 -> dw, func58 -> dA
set_option linter.all false
set_option maxHeartbeats 16000000
set_option maxRecDepth 1000000
namespace Go.Proofs.YthcalnnipjflkaaGreatDoor
open Go.RowKit Go.Sort
open Go.Lib hiding intOf
theorem Dl {w w':aK}{e t:TypeId}{k b:Nat}{c:Array aP}{a:Nat×Nat}(h:OthersKept e (aj b) w w')(d:w.heap[k]?=aj (.cells c t a))(f:k≠b)(g:t≠e):w'.heap[k]?=aj (.cells c t a):=
 h k _ d (λe=>f (Option.some.inj e)) λi j e=>by cases e;exact g rfl
def oI (X Y:aK):Prop:=∀(k:Nat) (c:Array aP) (a:Nat×Nat),X.heap[k]?=aj (.cells c 3 a)->Y.heap[k]?=aj (.cells c 3 a)
theorem oI.refl (X:aK):oI X X:=λ_ _ _ h=>h
theorem oI.trans {X Y Z:aK}(h:oI X Y)(k:oI Y Z):oI X Z:=λa c b e=>k a c b (h a c b e)
structure WX (N:List Nd)(v:aP)(root:Int)(tb sr:Nat)(ent:Nat->List Int)(w0:aK)(B b:Nat)(E:List aP)(l:List UInt8)(X:aK):Prop where
 ct:CT N v root tb sr ent w0 E X
 nG:bC 51 5 B b (byteCells l) X
 Dn:w0.heap.size<=B
 oJ:B<=X.heap.size
section
variable {N:List Nd} {v:aP} {root:Int} {tb sr:Nat} {ent:Nat->List Int} {w0:aK} {B b:Nat} {E E':List aP} {l l':List UInt8} {w w':aK}
theorem XQ (h:bC 51 5 B b (byteCells l) w):∃c a,w.heap[b]?=aj (.cells c 51 a):=by
 rcases h with⟨_,v,h,_⟩|⟨_,v,h,_⟩
 ·exact⟨_,_,h⟩
 ·exact⟨_,_,h⟩
theorem Dp {k t:Nat}{c:Array aP}{d:Nat×Nat}(h:bC 51 5 B b (byteCells l) w)(e:w.heap[k]?=aj (.cells c t d))(f:t≠51):k≠b:=by rintro rfl;obtain⟨g,i,a⟩:=XQ h;rw[e]at a;cases a;exact f rfl
theorem WX.wrote (h:WX N v root tb sr ent w0 B b E l w)(j:bC 51 5 B b (byteCells l') w')(e:Below B w w')(a:OthersKept 5 (aj b) w w'):WX N v root tb sr ent w0 B b E l' w'/\oI w w':=
 ⟨⟨⟨h.ct.nodes,h.ct.below.trans (e.mono h.Dn),h.ct.lo,⟨Dl a h.ct.tab.box (Dp h.nG h.ct.tab.box iG) iG,Dl a h.ct.tab.row (Dp h.nG h.ct.tab.row iG) iG,h.ct.tab.len,h.ct.tab.ne⟩,
  λi hi=>by
   rcases h.ct.val i hi with d|⟨m,d,f,n⟩
   ·exact .inl d
   ·exact .inr ⟨m,d,Dl a f (Dp h.nG f iG) iG,n⟩⟩,j,h.Dn,aN h.oJ e.size⟩,
 λk c o g=>Dl a g (Dp h.nG g iG) iG⟩
theorem WX.fresh (h:WX N v root tb sr ent w0 B b E l w)(a:Below w.heap.size w w'):WX N v root tb sr ent w0 B b E l w'/\oI w w':=
 ⟨⟨h.ct.keep a,by
  rcases h.nG with⟨e,x,d,f,g⟩|⟨e,x,d,f,g⟩
  ·exact .inl ⟨e,x,by rw[a.block b (aB.1 d).1];exact d,AO f a,g⟩
  ·exact .inr ⟨e,x,by rw[a.block b (aB.1 d).1];exact d,AO f a,g⟩,h.Dn,aN h.oJ a.size⟩,
 λk c j i=>by rw[a.block k (aB.1 i).1];exact i⟩
theorem WX.learnt (h:WX N v root tb sr ent w0 B b E l w)(hc:CT N v root tb sr ent w0 E' w')(u:KT sr E E' w w'):WX N v root tb sr ent w0 B b E' l w'/\oI w w':=by
 have d:∀(k:Nat) (c:Array aP) (t:TypeId) (f:Nat×Nat),w.heap[k]?=aj (.cells c t f)->t≠36->w'.heap[k]?=aj (.cells c t f):=by
  intro k c t f i y;rw[u.g.block k (aB.1 i).1 ?_]
  ·exact i
  ·intro e
   have:=Option.some.inj e;subst this;have:=h.ct.tab.row;rw[i]at this;cases this;exact y rfl
 refine⟨⟨hc,?_,h.Dn,aN h.oJ u.g.size⟩,λk c f i=>d k c _ f i iG⟩;rcases h.nG with⟨m,x,n,j,o⟩|⟨m,x,n,j,o⟩
 ·refine .inl ⟨m,x,d _ _ _ _ n iG,?_,o⟩
  refine⟨j.1,?_⟩;rcases j.2 with a|⟨g,cap,p,a,q,r,s⟩
  ·exact .inl a
  ·exact .inr ⟨g,cap,p,a,q,d _ _ _ _ r iG,s⟩
 ·refine .inr ⟨m,x,d _ _ _ _ n iG,?_,o⟩
  refine⟨j.1,?_⟩;rcases j.2 with a|⟨g,cap,p,a,q,r,s⟩
  ·exact .inl a
  ·exact .inr ⟨g,cap,p,a,q,d _ _ _ _ r iG,s⟩
end
theorem XR (g:Nat->List UInt8):∀{i L:Nat},i<=L->((aX i).flatMap g).length<=((aX L).flatMap g).length:=by
 intro i L h;obtain⟨d,rfl⟩:=Nat.exists_eq_add_of_le h;clear h
 induction d with
 |zero=>exact aO _
 |succ d a=>rw[show i+(d+1)=(i+d)+1 by omega,bZ,bQ,au];omega
theorem XT (g:Nat->List UInt8)(i:Nat):(aX (i+1)).flatMap g=(aX i).flatMap g++g i:=by rw[bZ,bQ,List.flatMap_singleton]
theorem XU {N:List Nd}{K:Nat->Prop}{H:Nat->Nat}{F:Nat}(hf:Fine N K H F)(bl:Fm N)(v:aP)(root:Int)(tb sr:Nat)(w0:aK)(B b:Nat){ent:Nat->List Int}(bM:∀a,a<N.length->qp (ent a) (N.getD a nd0).items.length)(cl:∀a,K a->wH N v root tb sr ent w0 a):
  ∀(f a:Nat) (l:List UInt8) (E:List aP) (w:aK),K a->H a<f->l.length+jV N f a<=1073741824->WX N v root tb sr ent w0 B b E l w->
  bU aZ 76 #[.pointer (aj ⟨tb,0,ag⟩),.pointer (aj ⟨b,0,ag⟩),.int .i64 a] w λe w'=>e=.returned (.tuple #[])/\∃E',WX N v root tb sr ent w0 B b E' (l++lJ N ent f a) w'/\oI w w':=by
 intro f
 induction f with
 |zero=>intro a l E w _ h;exact absurd h (aQ _)
 |succ f cm=>
  intro a l E w bN cM bm ad;obtain⟨ha,a2⟩:=hf.wf a bN;have bo:=ae cm;have L:=ae ad;have dl:(a:Int)<(N.length:Int):=iE
  obtain⟨va,vc,cN,cO,cP⟩:=ad.ct.nodes;subst cN;rcases cP with Z|⟨nb,o,rfl,cn⟩
  ·exfalso;rw[Z]at ha;exact aQ _ ha
  have bO:=cn a N[a] (ah ha);have co:N.getD a nd0=N[a]:=by rw[ax,ah ha];rfl
  have aq:=bl.at a;have a3:=hf.txt _ (hf.mem ha);have hit:=hf.xN _ (hf.mem ha);have bp:=hf.fit _ (hf.mem ha);have bq:=hf.rng _ (hf.mem ha);have a4:=cl a bN;have cp:=KU bl bM (f+1) a;have cQ:lJ N ent (f+1) a=_:=rfl;rw[<-cp]at bm;clear cp;obtain⟨T,j⟩:=iC (lJ N ent (f+1) a);rw[j]at bm⊢;clear cQ;unfold lJ at j;unfold wH at a4;rw[co]at aq a3 hit bp bq a4 a2 j;generalize N[a]=n at bO aq a3 hit bp bq a4 a2 j;have cq:=ae λwr (hw:Below w0.heap.size w0 wr)=>KP n wr nb (o+a*5) (vH.below bO hw) iE
  obtain⟨dp,ai,bR,bS,bX,cr,b0,cs,b1⟩:=bO;have ak:=ae (And.intro bR (And.intro bS (And.intro bX (And.intro cr b0))));have dq:w.cell? ⟨tb,0,ag⟩=aj (.slice (aj ⟨nb,o,ag⟩) N.length vc):=(af ad.ct.tab.box 0).trans rfl;have aM:=iU ad.ct.below bR;have b2:=iU ad.ct.below bS;have a5:=iU ad.ct.below bX;have b3:=iU ad.ct.below b0;have br:PLift (∀x∈n.keys++n.items,K x.toNat/\H x.toNat<f):=⟨λx hx=>⟨(a2 x hx).1,by have:=(a2 x hx).2;omega⟩⟩;have bs:=ae bq;have cR:=ae bp;have bt:=ae bm;have bv:=ae λp:Nat=>KU (E:=ent) bl bM f p
  have bw:=ae a4;clear cO cn co a2 bq bp bm ad a4 bM cl bl cm bN cM ha bR bS bX cr b0 hf;by_cases al:n.kind=11
  ·rw[gY al]at j
   have b4:=aq.2.2 al;rw[al]at aM;have G:0<n.items.length:=iE;have cv:(0:Int)<(n.items.length:Int):=iE;obtain⟨cS,cT,rfl,b5,bx⟩:=b1;rcases bx with Z|⟨b6,lo,rfl,Q⟩
   ·exfalso;rw[Z]at G;exact aQ _ G
   have b7:=Q 0 n.items[0] (ah G);have hx:=bs.1.2 n.items[0] (aJ G);have R:n.items.getD 0 0=n.items[0]:=(by rw[ax,ah G];rfl);have hy:=br.1 n.items[0] (aV _ (aJ G));rw[R]at j;generalize n.items[0]=x at hx b7 j hy;obtain⟨p,rfl⟩:=aI hx.1;simp only[aH]at j hy;have cw:=bv.1 p;have O:=ae j;have a6:=ae b7
   have C:PLift (l.length+(n.text.size+2)+(lJ N ent f p).length+1<=1073741824):=⟨by
    have D:=bt.1;rw[<-j]at D;have:n.text.data.toList.length=n.text.size:=iH;simp only[au,aA,az]at D
    omega⟩
   have hd:((⟨#[33]⟩:ByteArray)++n.text++⟨#[40]⟩).data.toList=33::n.text.data.toList++[40]:=iH
   have b8:((⟨#[33]⟩:ByteArray)++n.text++⟨#[40]⟩).size=n.text.size+2:=by rw[ByteArray.size_append,ByteArray.size_append];show 1+n.text.size+1=_;omega
   have b9:=ae (La B b l (⟨#[33]⟩++n.text++⟨#[40]⟩) w L.1.nG (by rw[b8];have:=C.1;omega) L.1.oJ);rw[hd]at b9
   have a7:(l++(33::n.text.data.toList++[40])).length+jV N f p<=1073741824:=by rw[<-cw];have D:=C.1;have:n.text.data.toList.length=n.text.size:=iH;simp only[au,aA,az];omega
   have cx:=ae λam (cU:WX N (.slice (aj ⟨nb,o,ag⟩) N.length vc) root tb sr ent w0 B b E (l++(33::n.text.data.toList++[40])) am)=>bo.1 p _ E am hy.1 hy.2 a7 cU
   clear a7;have cy:(n.text.size:Int)<=70000:=iE;have cV:((n.text.size:Int)+1)<=70001:=iE;have ar:=ae (show(n.text.data.toList.length=n.text.size) by simp);generalize n.text=t at b2 b9 j O cx C cy cV b8 hd ar;clear a5 aq a3 hit Q hx R hy b5 G j cw b7 b4 b8 hd
   as_aux_lemma=>
   go_enter bI,bF
   as_aux_lemma=>
   go_upto_region 3 with(go_at_call 17;refine(b9.1).mono ?_;rintro e am ⟨rfl,c,d,g⟩;have z:=ae (L.1.wrote c d g);clear c d g)
   have cz:=iU z.1.1.ct.below ak.1.2.2.2.2;have cA:=iU z.1.1.ct.below a6.1;rw[Nat.add_zero]at cA;have aR:am.cell? ⟨b6,lo+0,ag⟩=aj (.int .i64 (p:Nat)):=cA
   as_aux_lemma=>
   go_upto_region 4 with(go_at_call 76;refine(cx.1 _ z.1.1).mono ?_;rintro e an ⟨rfl,E2,cB,cC⟩;have P:=ae cB;have cW:=ae cC;clear cB cC)
   have ao:=ae (qR B b _ 41 an P.1.nG (by have:=C.1;have:=ar.1;simp only[au,aA,az];omega) P.1.oJ)
   as_aux_lemma=>
   go_wp2_with(go_at_call 92;refine(ao.1).mono ?_;rintro e w3 ⟨rfl,c,d,g⟩;have ap:=ae (P.1.wrote c d g);clear c d g)
   refine aC (v:=.tuple #[]) (by simp only[results,dh];go_simp) rfl ?_;refine⟨rfl,E2,?_,(z.1.2.trans cW.1).trans ap.1.2⟩;have h:=ap.1.1;rw[<-O.1];simp only[aU]at h⊢;exact h
  rw[gZ al]at j;by_cases a8:n.kind<9
  ·rw[gY a8]at j
   have cD:(o7 n).data.toList=T:=j;have O:=ae cD;have ca:=cq.1 w L.1.ct.below;generalize o7 n=t at ca O;obtain⟨k,X⟩:=iC n.kind;rw[X]at aM al a8;have dr:(k==11)=aS:=(by simpa using al);have cX:=ae ca;clear aq a3 hit b1 cs j cD X b2 a5 b3 ca
   as_aux_lemma=>
   go_enter bI,bF
   as_aux_lemma=>
   go_wp2_with(go_at_call 91;refine(cX.1).mono ?_;rintro e am ⟨rfl,cE⟩;have cY:=ae cE;clear cE)
   have z:=ae (L.1.fresh cY.1)
   have a7:l.length+t.size<=140737488355328:=by have D:=bt.1;rw[<-O.1]at D;have:t.data.toList.length=t.size:=iH;omega
   have c0:=ae (La B b l t am z.1.1.nG a7 z.1.1.oJ);clear a7
   as_aux_lemma=>
   go_wp2_with(go_at_call 17;refine(c0.1).mono ?_;rintro e an ⟨rfl,c,d,g⟩;have P:=ae (z.1.1.wrote c d g);clear c d g)
   refine aC (v:=.tuple #[]) (by simp only[results,dh];go_simp) rfl ?_;refine⟨rfl,E,?_,z.1.2.trans P.1.2⟩;have h:=P.1.1;rw[O.1]at h;exact h
  rw[gZ a8]at j;obtain⟨cS,cT,rfl,b5,bx⟩:=b1;obtain⟨ds,dt,rfl,c1,cF⟩:=cs;have cG:=ae bx;have c2:=ae cF;have cy:(n.items.length:Int)<=1000000:=iE
  obtain⟨u,a9⟩:∃u:Nat->List UInt8,u=λi=>(aX i).flatMap (rU (lJ N ent f) n (ent a)):=⟨_,rfl⟩
  have cH:(aX n.items.length).flatMap (rU (lJ N ent f) n (ent a))=u n.items.length:=by rw[a9]
  have a0:PLift (u 0=[]/\(∀i,u (i+1)=u i++rU (lJ N ent f) n (ent a) i)/\∀i,i<=n.items.length->(u i).length<=(u n.items.length).length):=⟨by rw[a9];rfl,λi=>by rw[a9];exact XT _ i,λi hi=>by rw[a9];exact XR _ hi⟩;rw[cH]at j;clear a9 cH
  have C:PLift (l.length+1+(u n.items.length).length+1<=1073741824):=⟨by
   have D:=bt.1;rw[<-j]at D;simp only[au,aA,az]at D
   omega⟩
  have O:=ae j;clear j a3 hit bx cF b5 c1 cq bt b2;have c3:n.kind=9\/n.kind=10:=by have:=aq.1;omega
  clear aq;rcases c3 with X|X
  ·have J:=ae X
   rw[X]at aM;clear X al a8 a5;have cb:PLift (∀i,rU (lJ N ent f) n (ent a) i=((if i=0 then[]else[44])++[])++lJ N ent f (n.items.getD ((ent a).getD i 0).toNat 0).toNat):=⟨λi=>by unfold rU;rw[gZ (show ¬n.kind=10 by rw[J.1];decide)]⟩;have ar:PLift (([91]++u n.items.length)++[93]=T):=⟨by rw[<-O.1];unfold Di Dj;rw[gZ (by rw[J.1];decide),gZ (by rw[J.1];decide)]⟩;have ao:=ae (qR B b l 91 w L.1.nG (by have:=C.1;omega) L.1.oJ);clear O
   as_aux_lemma=>
   go_enter bI,bF
   as_aux_lemma=>
   go_upto_region 13 with(go_at_call 92;refine(ao.1).mono ?_;rintro e am ⟨rfl,c,d,g⟩;have z:=ae (L.1.wrote c d g);clear c d g)
   clear aM b3
   as_aux_lemma=>
   go_wp2_with(go_at_call 93;refine(bw.1 _ _ z.1.1.ct).mono ?_;rintro e an ⟨cc,rfl,ba,bb,bc,E2,aR,bd⟩;have av:=ae (And.intro ba (And.intro bb.len bc));have P:=ae (z.1.1.learnt aR bd);clear ba bb bc aR bd)
   clear bw
   go_loopw [69] (λai wr=>∃(i:Nat) (S:List aP),ai=.int .i64 i/\i<=n.items.length/\WX N (.slice (aj ⟨nb,o,ag⟩) N.length vc) root tb sr ent w0 B b S (l++([91]++u i)) wr/\oI an wr) (λai _=>n.items.length - (intOf ai).toNat)
   case atStart=>exact⟨0,E2,rfl,bV _,by rw[a0.1.1];exact P.1.1,oI.refl _⟩
   case round=>
    as_aux_lemma=>
    obtain⟨i,S,rfl,hi,be,aw⟩:=hrel;obtain⟨m,cd⟩:∃m:aK,m=wr:=⟨_,rfl⟩;subst cd;have s:=ae (And.intro be aw);have aa:=aw _ _ _ av.1.1;clear be aw;by_cases G:i<n.items.length
    ·have cv:(i:Int)<(n.items.length:Int):=iE
     have ab:i<(ent a).length:=(by rw[av.1.2.1];exact G);have bf:=av.1.2.2 _ (getD_mem ab);obtain⟨q,ac⟩:∃q:Nat,(ent a).getD i 0=(q:Int):=⟨((ent a).getD i 0).toNat,iE⟩;have c4:m.cell? ⟨cc,i,ag⟩=aj (.int .i64 (q:Nat)):=(by rw[<-ac];exact kJ aa ab);have y:=cb.1 i;rw[ac,aH]at y;have Y:q<n.items.length:=iE;have c5:(q:Int)<(n.items.length:Int):=iE;rcases cG.1 with Z|⟨b6,lo,rfl,Q⟩
     ·exfalso;rw[Z]at G;exact aQ _ G
     have U:=Q q n.items[q] (ah Y);have hx:=bs.1.2 n.items[q] (aJ Y);have hy:=br.1 n.items[q] (aV _ (aJ Y));have R:n.items.getD q 0=n.items[q]:=(by rw[ax,ah Y];rfl);rw[R]at y;generalize n.items[q]=x at hx U y hy;obtain⟨p,rfl⟩:=aI hx.1;simp only[aH]at y hy;have bg:=ae (And.intro (bv.1 p) hy.2);have ce:=ae hy.1;have a6:=ae U;clear Q hx R hy U;have I:=ae (a0.1.2.1 i);have aD:PLift ((u (i+1)).length<=(u n.items.length).length):=⟨a0.1.2.2 _ iE⟩;rw[y]at I;by_cases V:i=0
     case' pos=>rw[gY V]at I;have cf:¬(0:Int)<(i:Int):=iE;have c6:decide ((0:Int)<(i:Int))=aS:=iw cf;have d0:=iU s.1.1.ct.below ak.1.1;rw[J.1]at d0;have cg:m=m:=rfl;have M:PLift (WX N (.slice (aj ⟨nb,o,ag⟩) N.length vc) root tb sr ent w0 B b S (l++([91]++u i)++[]) m/\oI an m):=⟨by rw[aY];exact s.1⟩;have c7:=ae V;clear V aa y ab bf ac cg;obtain⟨bh,aE⟩:=iD m;subst aE
     case' neg=>
      rw[gZ V]at I;have c8:(0:Int)<(i:Int):=iE;have ch:=ae (qR B b _ 44 m s.1.1.nG (by have D:=C.1;have A:=aD.1;rw[I.1]at A;simp only[au,aA,az]at A⊢;omega) s.1.1.oJ);clear V aa y ab bf ac
      go_upto_region 18 with(go_at_call 92;refine(ch.1).mono ?_;rintro e w3 ⟨rfl,c,d,g⟩;have W:=s.1.1.wrote c d g;have M:=ae (And.intro W.1 (s.1.2.trans W.2));clear c d g W)
      have d0:=iU M.1.1.ct.below ak.1.1;rw[J.1]at d0;obtain⟨bh,aE⟩:=iD w3;subst aE
     all_goals
      have cz:=iU M.1.1.ct.below ak.1.2.2.2.2;have b4:=iU M.1.1.ct.below a6.1;have ci:=ae (bo.1 p _ S bh ce.1 bg.1.2 (by rw[<-bg.1.1];have D:=C.1;have A:=aD.1;rw[I.1]at A;simp only[au,aA,az]at A⊢;omega) M.1.1)
      as_aux_lemma=>
      go_wp2_with(go_at_call 76;refine(ci.1).mono ?_;rintro e c9 ⟨rfl,cj,bi,bj⟩;have bk:=ae (And.intro bi (M.1.2.trans bj));clear bi bj)
      go_roundw
      case rel=>exact⟨i+1,cj,by go_num,iE,by have h:=bk.1.1;rw[I.1];simp only[aU,aY,cu,bY]at h⊢;exact h,bk.1.2⟩
      case measure=>simp[intOf];omega
    ·obtain rfl:i=n.items.length:=iE
     have bA:=ae (qR B b _ 93 m s.1.1.nG (by have D:=C.1;simp only[au,aA,az];omega) s.1.1.oJ);clear aa
     as_aux_lemma=>
     go_wp2_with(go_at_call 92;refine(bA.1).mono ?_;rintro e w3 ⟨rfl,c,d,g⟩;have ap:=ae (s.1.1.wrote c d g);clear c d g)
     go_end0;refine⟨rfl,S,?_,((z.1.2.trans P.1.2).trans s.1.2).trans ap.1.2⟩;have h:=ap.1.1;rw[<-ar.1];simp only[aU]at h⊢;exact h
  ·have J:=ae X
   rw[X]at aM;clear X al a8;cases ck:n.ord
   all_goals
    have bB:=ae ck;rw[ck]at a5;clear ck;have cb:PLift (∀i,rU (lJ N ent f) n (ent a) i=((if i=0 then[]else[44])++(lJ N ent f (n.keys.getD ((ent a).getD i 0).toNat 0).toNat++[61]))++lJ N ent f (n.items.getD ((ent a).getD i 0).toNat 0).toNat):=⟨λi=>by unfold rU;rw[gY J.1]⟩
   case' false=>obtain⟨op,aF⟩:∃x:UInt8,x=123:=⟨_,rfl⟩;obtain⟨a1,aG⟩:∃x:UInt8,x=125:=⟨_,rfl⟩;have ar:PLift (([op]++u n.items.length)++[a1]=T):=⟨by rw[<-O.1,aF,aG];unfold Di Dj;rw[gY J.1,gY J.1,gZ (by rw[bB.1];decide),gZ (by rw[bB.1];decide)]⟩;have ao:=ae (qR B b l op w L.1.nG (by have:=C.1;omega) L.1.oJ);rw[show op.toNat=123 by rw[aF];rfl]at ao;have cI:PLift (a1.toNat=125):=⟨by rw[aG];rfl⟩;clear aF aG
   case' true=>obtain⟨op,aF⟩:∃x:UInt8,x=60:=⟨_,rfl⟩;obtain⟨a1,aG⟩:∃x:UInt8,x=62:=⟨_,rfl⟩;have ar:PLift (([op]++u n.items.length)++[a1]=T):=⟨by rw[<-O.1,aF,aG];unfold Di Dj;rw[gY J.1,gY J.1,gY bB.1,gY bB.1]⟩;have ao:=ae (qR B b l op w L.1.nG (by have:=C.1;omega) L.1.oJ);rw[show op.toNat=60 by rw[aF];rfl]at ao;have cI:PLift (a1.toNat=62):=⟨by rw[aG];rfl⟩;clear aF aG
   all_goals
    clear O
    as_aux_lemma=>
    go_enter bI,bF
    as_aux_lemma=>
    go_upto_region 13 with(go_at_call 92;refine(ao.1).mono ?_;rintro e am ⟨rfl,c,d,g⟩;have z:=ae (L.1.wrote c d g);clear c d g)
    clear aM b3 a5
    as_aux_lemma=>
    go_wp2_with(go_at_call 93;refine(bw.1 _ _ z.1.1.ct).mono ?_;rintro e an ⟨cc,rfl,ba,bb,bc,E2,aR,bd⟩;have av:=ae (And.intro ba (And.intro bb.len bc));have P:=ae (z.1.1.learnt aR bd);clear ba bb bc aR bd)
    clear bw
    go_loopw [69] (λai wr=>∃(i:Nat) (S:List aP),ai=.int .i64 i/\i<=n.items.length/\WX N (.slice (aj ⟨nb,o,ag⟩) N.length vc) root tb sr ent w0 B b S (l++([op]++u i)) wr/\oI an wr) (λai _=>n.items.length - (intOf ai).toNat)
    case atStart=>exact⟨0,E2,rfl,bV _,by rw[a0.1.1];exact P.1.1,oI.refl _⟩
    case round=>
     as_aux_lemma=>
     obtain⟨i,S,rfl,hi,be,aw⟩:=hrel;obtain⟨m,cd⟩:∃m:aK,m=wr:=⟨_,rfl⟩;subst cd;have s:=ae (And.intro be aw);have aa:=aw _ _ _ av.1.1;clear be aw;by_cases G:i<n.items.length
     ·have cv:(i:Int)<(n.items.length:Int):=iE
      have ab:i<(ent a).length:=(by rw[av.1.2.1];exact G);have bf:=av.1.2.2 _ (getD_mem ab);obtain⟨q,ac⟩:∃q:Nat,(ent a).getD i 0=(q:Int):=⟨((ent a).getD i 0).toNat,iE⟩;have c4:m.cell? ⟨cc,i,ag⟩=aj (.int .i64 (q:Nat)):=(by rw[<-ac];exact kJ aa ab);have y:=cb.1 i;rw[ac,aH]at y;have Y:q<n.items.length:=iE;have c5:(q:Int)<(n.items.length:Int):=iE;rcases cG.1 with Z|⟨b6,lo,rfl,Q⟩
      ·exfalso;rw[Z]at G;exact aQ _ G
      have U:=Q q n.items[q] (ah Y);have hx:=bs.1.2 n.items[q] (aJ Y);have hy:=br.1 n.items[q] (aV _ (aJ Y));have R:n.items.getD q 0=n.items[q]:=(by rw[ax,ah Y];rfl);rw[R]at y;generalize n.items[q]=x at hx U y hy;obtain⟨p,rfl⟩:=aI hx.1;simp only[aH]at y hy;have bg:=ae (And.intro (bv.1 p) hy.2);have ce:=ae hy.1;have a6:=ae U;clear Q hx R hy U;have aL:q<n.keys.length:=(by rw[cR.1 J.1];exact Y);have du:(q:Int)<(n.keys.length:Int):=iE;rcases c2.1 with Z|⟨dv,dx,rfl,Q⟩
      ·exfalso;rw[Z]at aL;exact aQ _ aL
      have U:=Q q n.keys[q] (ah aL);have hx:=bs.1.1 n.keys[q] (aJ aL);have hy:=br.1 n.keys[q] (bn _ (aJ aL));have R:n.keys.getD q 0=n.keys[q]:=(by rw[ax,ah aL];rfl);rw[R]at y;generalize n.keys[q]=x at hx U y hy;obtain⟨r,rfl⟩:=aI hx.1;simp only[aH]at y hy;have cJ:=ae (And.intro (bv.1 r) hy.2);have da:=ae hy.1;have db:=ae U;clear Q hx R hy U aL;have I:=ae (a0.1.2.1 i);have aD:PLift ((u (i+1)).length<=(u n.items.length).length):=⟨a0.1.2.2 _ iE⟩;rw[y]at I;by_cases V:i=0
      case' pos=>rw[gY V]at I;have cf:¬(0:Int)<(i:Int):=iE;have c6:decide ((0:Int)<(i:Int))=aS:=iw cf;have d0:=iU s.1.1.ct.below ak.1.1;rw[J.1]at d0;have cg:m=m:=rfl;have M:PLift (WX N (.slice (aj ⟨nb,o,ag⟩) N.length vc) root tb sr ent w0 B b S (l++([op]++u i)++[]) m/\oI an m):=⟨by rw[aY];exact s.1⟩;have c7:=ae V;clear V aa y ab bf ac cg;obtain⟨bh,aE⟩:=iD m;subst aE
      case' neg=>
       rw[gZ V]at I;have c8:(0:Int)<(i:Int):=iE;have ch:=ae (qR B b _ 44 m s.1.1.nG (by have D:=C.1;have A:=aD.1;rw[I.1]at A;simp only[au,aA,az]at A⊢;omega) s.1.1.oJ);clear V aa y ab bf ac
       go_upto_region 18 with(go_at_call 92;refine(ch.1).mono ?_;rintro e w3 ⟨rfl,c,d,g⟩;have W:=s.1.1.wrote c d g;have M:=ae (And.intro W.1 (s.1.2.trans W.2));clear c d g W)
       have d0:=iU M.1.1.ct.below ak.1.1;rw[J.1]at d0;obtain⟨bh,aE⟩:=iD w3;subst aE
      all_goals
       have dc:=iU M.1.1.ct.below ak.1.2.2.2.1;have dd:=iU M.1.1.ct.below db.1;have de:=ae (bo.1 r _ S bh da.1 cJ.1.2 (by rw[<-cJ.1.1];have D:=C.1;have A:=aD.1;rw[I.1]at A;simp only[au,aA,az]at A⊢;omega) M.1.1)
       as_aux_lemma=>
       go_upto_region 20 with(go_at_call 76;refine(de.1).mono ?_;rintro e df ⟨rfl,dg,cK,cL⟩;have bE:=ae (And.intro cK (M.1.2.trans cL));clear cK cL)
       clear d0 dc dd;have dj:=ae (qR B b _ 61 df bE.1.1.nG (by have D:=C.1;have A:=aD.1;rw[I.1]at A;simp only[au,aA,az]at A⊢;omega) bE.1.1.oJ)
       as_aux_lemma=>
       go_upto_region 21 with(go_at_call 92;refine(dj.1).mono ?_;rintro e dk ⟨rfl,c,d,g⟩;have W:=bE.1.1.wrote c d g;have bL:=ae (And.intro W.1 (bE.1.2.trans W.2));clear c d g W)
       have cz:=iU bL.1.1.ct.below ak.1.2.2.2.2;have b4:=iU bL.1.1.ct.below a6.1;have ci:=ae (bo.1 p _ dg dk ce.1 bg.1.2 (by rw[<-bg.1.1];have D:=C.1;have A:=aD.1;rw[I.1]at A;simp only[au,aA,az]at A⊢;omega) bL.1.1)
       as_aux_lemma=>
       go_wp2_with(go_at_call 76;refine(ci.1).mono ?_;rintro e c9 ⟨rfl,cj,bi,bj⟩;have bk:=ae (And.intro bi (bL.1.2.trans bj));clear bi bj)
       go_roundw
       case rel=>exact⟨i+1,cj,by go_num,iE,by have h:=bk.1.1;rw[I.1];simp only[aU,aY,cu,bY]at h⊢;exact h,bk.1.2⟩
       case measure=>simp[intOf];omega
     ·obtain rfl:i=n.items.length:=iE
      have bA:=ae (qR B b _ a1 m s.1.1.nG (by have D:=C.1;simp only[au,aA,az];omega) s.1.1.oJ);rw[cI.1]at bA;clear aa
      as_aux_lemma=>
      go_wp2_with(go_at_call 92;refine(bA.1).mono ?_;rintro e w3 ⟨rfl,c,d,g⟩;have ap:=ae (s.1.1.wrote c d g);clear c d g)
      go_end0;refine⟨rfl,S,?_,((z.1.2.trans P.1.2).trans s.1.2).trans ap.1.2⟩;have h:=ap.1.1;rw[<-ar.1];simp only[aU]at h⊢;exact h
theorem FO {N:List Nd}{root:Int}(h:o9 N root=0):N.length<=4096/\0<=root/\root<(N.length:Int)/\nN N/\(∀i,i<N.length->rV N root.toNat i=aS)/\(∀i,i<N.length->tJ N root.toNat i=aS):=by
 unfold o9 at h;by_cases f:4096<N.length
 ·rw[gY f]at h;exact absurd h iG
 rw[gZ f]at h;by_cases g:N.length=0
 ·rw[gY g]at h;exact absurd h iG
 rw[gZ g]at h;by_cases d:vI N root=aS
 ·rw[gY d]at h;exact absurd h iG
 rw[gZ d]at h;by_cases e:(aX N.length).any (rV N root.toNat)=bJ
 ·rw[gY e]at h;exact absurd h iG
 rw[gZ e]at h;by_cases j:(aX N.length).any (tJ N root.toNat)=bJ
 ·rw[gY j]at h;exact absurd h iG
 obtain⟨a,b,c⟩:=Ll (N:=N) (root:=root) (by cases k:vI N root with|true=>rfl|false=>exact absurd k d);exact⟨iE,a,b,c,λi hi=>Dq (by simpa using e) hi,λi hi=>Dq (by simpa using j) hi⟩
theorem X4 {N:List Nd}{root:Int}(h:o9 N root=0):uM N root.toNat=aj ((qA N root.toNat).1,(qA N root.toNat).2)/\(∀x∈(qA N root.toNat).1,0<=x/\x<((qA N root.toNat).2.length:Int))/\(qA N root.toNat).2.length<=4096:=by
 obtain⟨c,g,j,d,f,_⟩:=FO h
 obtain⟨inn,sizes,e,a,b⟩:=Lj N root.toNat d c iE (λi hi=>by have:=f i hi;unfold rV at this;rw[Bool.or_eq_false_iff,Bool.not_eq_false']at this;exact this.1)
 rw[show qA N root.toNat=(inn,sizes) by unfold qA;rw[e];rfl];exact⟨e,a,b⟩
def rW (N:List Nd)(root:Int):Int×Bool:=uS N root.toNat (qA N root.toNat).1 (qA N root.toNat).2
theorem X5 (w:aK)(v:aP)(root:Int)(N:List Nd)(k:jJ w v N)(hF:yS N)(l:∀n∈N,n.text.size<=70000)(m:jM w)(o:Ar N root.toNat)(c:o9 N root=0):
  bU aZ 90 #[.agg #[v,.int .i64 root]] w λe w'=>e=.returned (.tuple #[.int .i64 (rW N root).1,.bool (rW N root).2])/\Below w.heap.size w w':=by
 have g:jJ (w.alloc (.cells #[v,.int .i64 root] 117)) v N:=k.below (iW w _);have p:=ae (Lm _ v root N g hF l (m.below (iW w _)) o);rw[c]at p;have h:=FO c;have hc:=X4 c;obtain⟨rt,rfl⟩:=aI h.2.1;rw[aH]at hc;have a:=ae (And.intro h hc);have y:=ae g;obtain⟨va,vc,rfl,C,z⟩:=k;have q:PLift ((w.alloc (.cells #[.slice va N.length vc,.int .i64 (rt:Nat)] 117)).heap[w.heap.size]?=aj (.cells #[.slice va N.length vc,.int .i64 (rt:Nat)] 117)):=⟨aW w _⟩;have i:PLift (Below w.heap.size w (w.alloc (.cells #[.slice va N.length vc,.int .i64 (rt:Nat)] 117))):=⟨iW w _⟩;clear h hc g z hF l m o c
 as_aux_lemma=>
 go_enter Tryz.func90,Tryz.ntmps90
 as_aux_lemma=>
 go_upto_region 3 with(go_at_call 89;refine(p.1).mono ?_;rintro e d ⟨rfl,r⟩;have f:=ae r;clear r)
 have s:PLift (d.heap[w.heap.size]?=aj (.cells #[.slice va N.length vc,.int .i64 (rt:Nat)] 117)):=⟨by rw[f.1.block _ (block_lt q.1)];exact q.1⟩;have A:=ae (y.1.below f.1);have t:=ae (Kr d (.slice va N.length vc) rt N _ _ A.1 a.1.1.2.2.2.1 a.1.1.1 (by have:=a.1.1.2.2.1;omega) a.1.2.1 a.1.2.2.1 a.1.2.2.2);obtain⟨dd,hdd⟩:=iC ((rW N (rt:Nat)).1 );obtain⟨j,b⟩:=iC ((rW N (rt:Nat)).2 );have u:=ae (And.intro hdd b);unfold rW at hdd b;rw[aH]at hdd b;rw[hdd,b]at t;clear hdd b;have D:d.cell? ⟨w.heap.size,0,ag⟩=aj (.slice va N.length vc):=(af s.1 0).trans rfl;have E:d.cell? ⟨w.heap.size,1,ag⟩=aj (.int .i64 (rt:Nat)):=(af s.1 1).trans rfl
 as_aux_lemma=>
 go_wp2_with(go_at_call 107;refine(t.1).mono ?_;rintro e F ⟨rfl,x⟩;have B:=ae x;clear x)
 refine aC (v:=.tuple #[.int .i64 dd,.bool j]) (by simp only[results,Tryz.results90];go_simp) rfl ?_;exact⟨by rw[u.1.1,u.1.2],(i.1.trans (f.1.mono i.1.size)).trans (B.1.mono (aN i.1.size f.1.size))⟩
noncomputable def qB (N:List Nd)(root:Int):Int:=if o9 N root=0 then(if(rW N root).2 =bJ then 0 else 14)else 3
theorem X6 (w:aK)(v:aP)(root:Int)(N:List Nd)(B:jJ w v N)(hF:yS N)(p:∀n∈N,n.text.size<=70000)(q:jM w)(r:Ar N root.toNat):
  bU aZ 73 #[.agg #[v,.int .i64 root]] w λe w'=>e=.returned (.int .i64 (qB N root))/\Below w.heap.size w w':=by
 have s:jJ (w.alloc (.cells #[v,.int .i64 root] 117)) v N:=B.below (iW w _);have i:=ae (Lm _ v root N s hF p (q.below (iW w _)) r);have t:=ae λa (u:jJ a v N) (x:jM a) (d:o9 N root=0)=>X5 a v root N u hF p x r d
 have h:=ae (show qB N root=if o9 N root=0 then(if(rW N root).2 =bJ then 0 else 14)else 3 from rfl);have C:=ae s;have D:=ae (q.below (iW w (.cells #[v,.int .i64 root] 117)));obtain⟨va,vc,rfl,J,E⟩:=B;have m:PLift ((w.alloc (.cells #[.slice va N.length vc,.int .i64 root] 117)).heap[w.heap.size]?=aj (.cells #[.slice va N.length vc,.int .i64 root] 117)):=⟨aW w _⟩;have f:PLift (Below w.heap.size w (w.alloc (.cells #[.slice va N.length vc,.int .i64 root] 117))):=⟨iW w _⟩;generalize qB N root=A at h;clear s E hF p q r;by_cases d:o9 N root=0
 ·rw[gY d]at h
  have o:=ae λa u x=>t.1 a u x d
  rw[d]at i;generalize(rW N root).1 =dd at o;generalize(rW N root).2 =F at o h;clear d t;cases F with
  |true=>
   have j:=ae (h.1.trans (gY rfl))
   as_aux_lemma=>
   go_enter bW,bT
   as_aux_lemma=>
   go_upto_region 3 with(go_at_call 89;refine(i.1).mono ?_;rintro e a ⟨rfl,g⟩;have b:=ae g;clear g)
   have k:PLift (a.heap[w.heap.size]?=aj (.cells #[.slice va N.length vc,.int .i64 root] 117)):=⟨by rw[b.1.block _ (block_lt m.1)];exact m.1⟩;have y:=ae (o.1 a (C.1.below b.1) (D.1.below b.1));have G:a.cell? ⟨w.heap.size,0,ag⟩=aj (.slice va N.length vc):=(af k.1 0).trans rfl;have H:a.cell? ⟨w.heap.size,1,ag⟩=aj (.int .i64 root):=(af k.1 1).trans rfl
   as_aux_lemma=>
   go_wp2_with(go_at_call 90;refine(y.1).mono ?_;rintro e I ⟨rfl,l⟩;have z:=ae l;clear l)
   refine aC (v:=.int .i64 0) (by simp only[results,bK];go_simp) rfl ?_;exact⟨by rw[j.1],(f.1.trans (b.1.mono f.1.size)).trans (z.1.mono (aN f.1.size b.1.size))⟩
  |false=>
   have j:=ae (h.1.trans (gZ iG))
   as_aux_lemma=>
   go_enter bW,bT
   as_aux_lemma=>
   go_upto_region 3 with(go_at_call 89;refine(i.1).mono ?_;rintro e a ⟨rfl,g⟩;have b:=ae g;clear g)
   have k:PLift (a.heap[w.heap.size]?=aj (.cells #[.slice va N.length vc,.int .i64 root] 117)):=⟨by rw[b.1.block _ (block_lt m.1)];exact m.1⟩;have y:=ae (o.1 a (C.1.below b.1) (D.1.below b.1));have G:a.cell? ⟨w.heap.size,0,ag⟩=aj (.slice va N.length vc):=(af k.1 0).trans rfl;have H:a.cell? ⟨w.heap.size,1,ag⟩=aj (.int .i64 root):=(af k.1 1).trans rfl
   as_aux_lemma=>
   go_wp2_with(go_at_call 90;refine(y.1).mono ?_;rintro e I ⟨rfl,l⟩;have z:=ae l;clear l)
   refine aC (v:=.int .i64 14) (by simp only[results,bK];go_simp) rfl ?_;exact⟨by rw[j.1],(f.1.trans (b.1.mono f.1.size)).trans (z.1.mono (aN f.1.size b.1.size))⟩
 ·have j:=ae (h.1.trans (gZ d))
  generalize o9 N root=c at i d;have K:(c==0)=aS:=by rw[iy];exact d
  have L:(c !=0)=bJ:=by rw[bne_iff_ne];exact d
  clear t
  as_aux_lemma=>
  go_enter bW,bT
  as_aux_lemma=>
  go_wp2_with(go_at_call 89;refine(i.1).mono ?_;rintro e a ⟨rfl,g⟩;have b:=ae g;clear g)
  refine aC (v:=.int .i64 3) (by simp only[results,bK];go_simp) rfl ?_;exact⟨by rw[j.1],f.1.trans (b.1.mono f.1.size)⟩
noncomputable def qC (N:List Nd)(root:Int):ByteArray×Int:=
 if qB N root=0 then(if 65536<jV N (N.length+1) root.toNat then(⟨#[]⟩,6)else(⟨(lJ N (tH N (N.length+1)) (N.length+1) root.toNat).toArray⟩,0))else(⟨#[]⟩,qB N root)
theorem X7 {N:List Nd}{root:Int}(h:qB N root=0):o9 N root=0/\(rW N root).2 =bJ:=by
 unfold qB at h;by_cases a:o9 N root=0
 ·rw[gY a]at h
  refine⟨a,?_⟩;by_cases b:(rW N root).2 =bJ
  ·exact b
  ·rw[gZ b]at h;exact absurd h iG
 ·rw[gZ a]at h;exact absurd h iG
theorem X8 {N:List Nd}{v:aP}{root:Int}{tb c:Nat}{b:Nat->List Int}{w0 X:aK}{E:List aP}{a:Nat}(h:wH N v root tb c b w0 a)(d:CT N v root tb c b w0 E X):qp (b a) (N.getD a nd0).items.length:=by obtain⟨e,w',f,⟨g,_,_,hp,_⟩,_⟩:=h X E d [];exact hp
def Ends (N:List Nd)(root:Int):Prop:=qB N root=0->∃H,Fine N (λi=>i<N.length) H (N.length+1)/\Fm N
theorem X9 (w:aK)(v:aP)(root:Int)(N:List Nd)(ak:jJ w v N)(hF:yS N)(al:∀n∈N,n.text.size<=70000)(am:jM w)(an:Ar N root.toNat)(ao:Ends N root):
  bU aZ 64 #[.agg #[v,.int .i64 root]] w λe w'=>e=.returned (.tuple #[.string (qC N root).1,.int .i64 (qC N root).2])/\Below w.heap.size w w':=by
 have A:=ae ak;have ap:=ae am;have k:=ae (show qC N root=if qB N root=0 then(if 65536<jV N (N.length+1) root.toNat then(⟨#[]⟩,6)else(⟨(lJ N (tH N (N.length+1)) (N.length+1) root.toNat).toArray⟩,0))else(⟨#[]⟩,qB N root)from rfl);obtain⟨B,V⟩:=iC ((qC N root).1 );obtain⟨C,W⟩:=iC ((qC N root).2 );rw[V,W];have u:=ae (And.intro V W);have L:=ae λ(wr:aK) (hr:jJ wr v N) (M:jM wr)=>X6 wr v root N hr hF al M an
 clear V W an hF am;obtain⟨va,vc,a1,bk,a2⟩:=ak;subst a1;have X:=ae (aW w (.cells #[.slice va N.length vc,.int .i64 root] 117));have O:=ae (jl w (.cells #[.slice va N.length vc,.int .i64 root] 117));have r:PLift (Below w.heap.size w (w.alloc (.cells #[.slice va N.length vc,.int .i64 root] 117))):=⟨iW w _⟩;have Y:=ae (A.1.below r.1);have Z:=ae (ap.1.below r.1);clear a2;by_cases g:qB N root=0
 case neg=>
  rw[gZ g]at k;have i:PLift (B=⟨#[]⟩/\C=qB N root):=⟨by rw[<-u.1.1,<-u.1.2,k.1];exact⟨rfl,rfl⟩⟩;generalize qB N root=c at L g i;have bl:(c==0)=aS:=by rw[iy];exact g
  have bm:(c !=0)=bJ:=by rw[bne_iff_ne];exact g
  clear ao
  as_aux_lemma=>
  go_enter dw,di
  as_aux_lemma=>
  go_wp2_with(go_at_call 73;refine(L.1 _ Y.1 Z.1).mono ?_;rintro e b ⟨rfl,l⟩;have s:=ae l;clear l)
  refine aC (v:=.tuple #[.string ⟨#[]⟩,.int .i64 c]) (by simp only[results,bP];go_simp) rfl ?_;exact⟨by rw[i.1.1,i.1.2],r.1.trans (s.1.mono r.1.size)⟩
 rw[gY g]at k;rw[g]at L;obtain⟨H,aq,ar⟩:=ao g;obtain⟨a3,av,a4,-⟩:=FO (X7 g).1;clear g;obtain⟨rt,rfl⟩:=aI av;rw[aH]at k;have aw:rt<N.length:=iE
 have d:=ae (And.intro aq (And.intro ar aw));have a5:=ae λ(wr:aK) (hr:jJ wr (.slice va N.length vc) N)=>Wn wr (.slice va N.length vc) (rt:Nat) N hr a3
 clear av a4 aw aq ar
 as_aux_lemma=>
 go_enter dw,di
 as_aux_lemma=>
 go_upto_region 1 with fail
 obtain⟨W0,a6⟩:=iC (w.alloc (.cells #[.slice va N.length vc,.int .i64 (rt:Nat)] 117));rw[a6]at X O r Y Z⊢;have D:W0.cell? ⟨w.heap.size,0,ag⟩=aj (.slice va N.length vc):=(af X.1 0).trans rfl;have E:W0.cell? ⟨w.heap.size,1,ag⟩=aj (.int .i64 (rt:Nat)):=(af X.1 1).trans rfl
 as_aux_lemma=>
 go_wp2_with(first
  |(go_at_call 73;refine(L.1 _ Y.1 Z.1).mono ?_;rintro e b ⟨rfl,l⟩;have s:=ae (r.1.trans (l.mono r.1.size));have a7:=ae (A.1.below s.1);have a8:=ae l;have D:b.cell? ⟨w.heap.size,0,ag⟩=aj (.slice va N.length vc):=(l.cell (p:=⟨w.heap.size,0,ag⟩) (by rw[O.1];exact bG _)).trans D;have E:b.cell? ⟨w.heap.size,1,ag⟩=aj (.int .i64 (rt:Nat)):=(l.cell (p:=⟨w.heap.size,1,ag⟩) (by rw[O.1];exact bG _)).trans E;clear l)
  |(go_at_call 74;refine(a5.1 _ a7.1).mono ?_;rintro e f ⟨rfl,P,aD⟩;have Q:=ae (s.1.trans (P.mono s.1.size));have bo:=ae (A.1.below Q.1);have aa:=ae aD;have ab:=bz (show w.heap.size<W0.heap.size by rw[O.1];exact bG _) a8.1.size;have D:f.cell? ⟨w.heap.size,0,ag⟩=aj (.slice va N.length vc):=(P.cell (p:=⟨w.heap.size,0,ag⟩) ab).trans D;have E:f.cell? ⟨w.heap.size,1,ag⟩=aj (.int .i64 (rt:Nat)):=(P.cell (p:=⟨w.heap.size,1,ag⟩) ab).trans E;clear P aD ab))
 have bp:∀F:aK,(Instr.makeSlice 36 (.int .i64 (N.length:Int)) (.int .i64 (N.length:Int))).run aZ F=.ok (.slice (aj ⟨F.heap.size,0,ag⟩) N.length N.length) (F.alloc (.cells (Array.replicate N.length (.int .i64 0)) 3)):=λF=>by rw[run_make_row' 36 3 (.int .i64 0) 8 Tryz.underlying36 su rfl .i64 .i64 N.length iE iE F,sD]
 as_aux_lemma=>
 go_simp;go_wp2
 go_loopw [22] (λac wr=>∃j:Nat,ac=.int .i64 j/\j<=N.length/\wr.heap[f.heap.size]?=aj (.cells ((ay j (-1)++ay (N.length - j) 0).map (Value.int .i64)).toArray 3)/\Below f.heap.size f wr) (λac _=>N.length - (intOf ac).toNat)
 case atStart=>exact⟨0,rfl,bV _,by rw[aW];simp,iW f _⟩
 case round=>
  as_aux_lemma=>
  obtain⟨j,rfl,aE,aF,aG⟩:=hrel;have R:=ae aF;have z:=ae aG;clear aF aG;by_cases bq:j<N.length
  ·have br:(j:Int)<(N.length:Int):=iE
   have e1:wr.cell? ⟨f.heap.size,j,ag⟩=aj (.int .i64 ((ay j (-1)++ay (N.length - j) 0).getD j 0)):=kJ R.1 iI;have bs:∀o,wr.frozen? ⟨f.heap.size,o,ag⟩=aS:=λo=>aT R.1 o
   generalize(ay j (-1:Int)++ay (N.length - j) 0).getD j 0=bt at e1
   as_aux_lemma=>
   go_wp2;go_roundw
   case rel=>exact⟨j+1,by go_num,iE,by
    have a9:(ay j (-1:Int)++ay (N.length - j) 0).set j (-1)=ay (j+1) (-1)++ay (N.length - (j+1)) 0:=by obtain⟨q,ba⟩:∃q,N.length - j=q+1:=⟨N.length - j - 1,iE⟩;have bb:N.length - (j+1)=q:=iE;rw[ba,bb,List.replicate_succ,List.set_append_right _ _ iH,List.length_replicate,dm,List.set_cons_zero,List.replicate_succ'];simp
    rw[<-a9];simp[World.setCell,Array.getElem?_modify,R.1,List.map_set],z.1.setCell (p:=⟨f.heap.size,j,ag⟩) (aO _) _⟩
   case measure=>simp[intOf];omega
  ·obtain rfl:j=N.length:=iE
   have S:=ae (aa.1.below z.1);have bc:=ae (Q.1.trans (z.1.mono Q.1.size))
   have aL:wJ N (N.length+1) (ay N.length (-1)):=⟨iH,λj aE h=>by rw[ax,bH,gY aE]at h;exact absurd h iG⟩
   obtain⟨K',M,-,hval⟩:=XP d.1.1 (N.length+1) rt _ d.1.2.2 (d.1.1.fu _ d.1.2.2) aL
   have bd:PLift (LW w (.slice va N.length vc) (rt:Nat) (.slice (aj ⟨b.heap.size+1,0,ag⟩) N.length N.length) N (b.heap.size+1+1) f.heap.size (ay N.length (-1)) wr):=
    ⟨⟨A.1,bc.1,S.1.box,by have:=R.1;rw[dm,List.replicate_zero,aY]at this;exact this,iH,Q.1.size,by have:=(aB.1 aa.1.box).1;omega⟩⟩
   have G:=ae (XG w (.slice va N.length vc) (rt:Nat) _ N (b.heap.size+1+1) f.heap.size d.1.1.rng (λn hn=>aN (al n hn) iG) d.1.1.fit (N.length+1) rt _ K' wr M d.1.2.2 bd.1);rw[hval]at G;have bv:=ae s.1.size;have d0:wr.cell? ⟨w.heap.size,0,ag⟩=aj (.slice va N.length vc):=iU z.1 D;have be:wr.cell? ⟨w.heap.size,1,ag⟩=aj (.int .i64 (rt:Nat)):=iU z.1 E;clear M hval aL;by_cases T:65536<jV N (N.length+1) rt
   ·rw[gY T]at k
    have i:PLift (B=⟨#[]⟩/\C=6):=⟨by rw[<-u.1.1,<-u.1.2,k.1];exact⟨rfl,rfl⟩⟩;have U:nM (jV N (N.length+1) rt)=65537:=(by unfold nM;omega);rw[U]at G
    as_aux_lemma=>
    go_wp2_with(go_at_call 75;refine(G.1).mono ?_;rintro e w3 ⟨rfl,I,J⟩;have m:=ae I;have K:=ae J;clear I J)
    refine aC (v:=.tuple #[.string ⟨#[]⟩,.int .i64 6]) (by simp only[results,bP];go_simp) rfl ?_;exact⟨by rw[i.1.1,i.1.2],m.1.below⟩
   ·rw[gZ T]at k
    have i:PLift (B=⟨(lJ N (tH N (N.length+1)) (N.length+1) rt).toArray⟩/\C=0):=⟨by rw[<-u.1.1,<-u.1.2,k.1];exact⟨rfl,rfl⟩⟩;have bf:=ae T;have U:nM (jV N (N.length+1) rt)<=65536:=(by unfold nM;omega);generalize nM (jV N (N.length+1) rt)=y at G U;have bg:¬(65536:Int)<((y:Nat):Int):=iE;have bw:decide (((y:Nat):Int)>65536)=aS:=iw bg
    have t:PLift (w.heap.size<wr.heap.size/\b.heap.size+1<wr.heap.size/\w.heap.size<=b.heap.size/\b.heap.size+1+1<f.heap.size):=⟨by
     have bx:=(aB.1 aa.1.box).1;have bA:=s.1.size;have bB:=z.1.size
     omega⟩
    clear T U
    as_aux_lemma=>
    go_upto_region 14 with(go_at_call 75;refine(G.1).mono ?_;rintro e w3 ⟨rfl,I,J⟩;have m:=ae I;have K:=ae J;clear I J)
    clear d0;have e1:(w3.alloc (.cells #[.pointer ag,.slice ag 0 0] 51)).cell? ⟨w.heap.size,1,ag⟩=aj (.int .i64 (rt:Nat)):=(World.cell?_of_block (bD w3 _ w.heap.size (bz t.1.1 K.1.size))).trans ((World.cell?_of_block (K.1.block w.heap.size t.1.1 (λe=>by have:=Option.some.inj e;have:=t.1;omega))).trans be)
    have aM:PLift (CT N (.slice va N.length vc) (rt:Nat) (b.heap.size+1+1) (b.heap.size+1) (tH N (N.length+1)) w (ay N.length (.slice ag 0 0)) (w3.alloc (.cells #[.pointer ag,.slice ag 0 0] 51))):=
     ⟨⟨A.1,m.1.below.alloc m.1.below.size _,by have:=t.1;omega,⟨(bD w3 _ _ (aB.1 m.1.tab).1).trans m.1.tab,(bD w3 _ _ (bz t.1.2.1 K.1.size)).trans ((K.1.block _ t.1.2.1 (λe=>by have:=Option.some.inj e;have:=t.1;omega)).trans S.1.row),S.1.len,S.1.ne⟩,
      λa ha=>.inl (by rw[ax,bH,gY ha];rfl)⟩⟩
    have bh:PLift (WX N (.slice va N.length vc) (rt:Nat) (b.heap.size+1+1) (b.heap.size+1) (tH N (N.length+1)) w w3.heap.size w3.heap.size (ay N.length (.slice ag 0 0)) [] (w3.alloc (.cells #[.pointer ag,.slice ag 0 0] 51))):=
     ⟨⟨aM.1,Lib.fresh_isBuilder _ _ w3,m.1.below.size,by rw[jl];omega⟩⟩
    have ad:∀a,a<N.length->wH N (.slice va N.length vc) (rt:Nat) (b.heap.size+1+1) (b.heap.size+1) (tH N (N.length+1)) w a:=λa ha=>XA d.1.1 ap.1 a ha λx hx=>((d.1.1.wf a ha).2 x (bn _ hx)).1
    have bi:=ae (XU d.1.1 d.1.2.1 (.slice va N.length vc) (rt:Nat) (b.heap.size+1+1) (b.heap.size+1) w w3.heap.size w3.heap.size (λa ha=>X8 (ad a ha) aM.1) ad (N.length+1) rt [] _ _ d.1.2.2 (d.1.1.fu _ d.1.2.2) (by have:=bf.1;rw[az];omega) bh.1);clear ad
    as_aux_lemma=>
    go_wp2_with(first
     |(go_at_call 76;refine(bi.1).mono ?_;rintro e bE ⟨rfl,bL,aR,-⟩;have ai:=ae aR;clear aR)
     |(go_at_call 19;refine(Tryz.Builder_String_any _ _ _ _ ai.1.nG ai.1.oJ).mono ?_;rintro e bM ⟨rfl,a0⟩;have bj:=ae a0;clear a0))
    refine aC (v:=.tuple #[.string ⟨(lJ N (tH N (N.length+1)) (N.length+1) rt).toArray⟩,.int .i64 0]) (by simp only[results,bP];go_simp) rfl ?_;exact⟨by rw[i.1.1,i.1.2],ai.1.ct.below.trans (bj.1.mono m.1.below.size)⟩
end Go.Proofs.YthcalnnipjflkaaGreatDoor
namespace Go.Proofs.YthcalnnipjflkaaGreatDoor
theorem jO.inRange {T:Nat}{N:List Nd}(h:jO T N):nN N:=by intro n hn;obtain⟨i,hi⟩:=h.range hn;exact⟨λx hx=>by have:=hi.refs x (bn _ hx);omega,λx hx=>by have:=hi.refs x (aV _ hx);omega⟩
theorem jO.wf {T:Nat}{N:List Nd}(h:jO T N):uT N (λi=>i<N.length) (λi=>N.length - i):=by intro i hi;refine⟨hi,λx hx=>?_⟩;rw[ax,ah hi,Option.getD_some]at hx;have:=(h i _ (ah hi)).refs x hx;show x.toNat<N.length/\N.length - x.toNat<N.length - i;omega
theorem jO.Ya {T:Nat}{N:List Nd}(h:jO T N)(a:T<=70000):yS N:=by intro n hn;obtain⟨i,hi⟩:=h.range hn;have b:=hi.JE;have c:=hi.kind;refine⟨by simp[Lit.wf,IntKind.min,IntKind.max,IntKind.signed,IntKind.bits];omega,by have:=hi.text;unfold maxLen;omega⟩
theorem jO.texts {T:Nat}{N:List Nd}(h:jO T N)(a:T<=70000):∀n∈N,n.text.size<=70000:=λn hn=>by obtain⟨i,hi⟩:=h.range hn;exact aN hi.text a
theorem jO.Yb {T:Nat}{N:List Nd}(h:jO T N)(a:N.length<=4096)(root:Nat):Ar N root:=by
 intro _ _ _;refine⟨_,_,h.wf,λn hn x hx=>?_,λi hi=>iE,λn hn=>?_⟩
 ·have:=(h.inRange n hn).1 x hx
  omega
 ·obtain⟨i,hi⟩:=h.range hn
  exact aN hi.keysL a
theorem jO.fm {T:Nat}{N:List Nd}(h:jO T N):Fm N:=λn hn=>by obtain⟨i,hi⟩:=h.range hn;exact⟨hi.kind,hi.leaf,hi.tag⟩
theorem jO.ends {T:Nat}{N:List Nd}(h:jO T N)(a:T<=70000)(b:N.length<=4096)(root:Int):Ends N root:=by
 intro _;refine⟨_,⟨h.wf,λi hi=>iE,h.inRange,h.texts a,λn hn=>?_,λn hn=>?_,iE⟩,h.fm⟩
 ·obtain⟨i,hi⟩:=h.range hn
  exact hi.map
 ·obtain⟨i,hi⟩:=h.range hn
  exact aN hi.JF iE
end Go.Proofs.YthcalnnipjflkaaGreatDoor
namespace Go.Proofs.YthcalnnipjflkaaGreatDoor
open Go.RowKit
open Go.Lib hiding intOf
noncomputable def wL (l:List UInt8):Int:=
 if 65536<l.length then 6 else match wF l with
  |none=>4
  |some N=>if(qC N 0).2 =0/\(qC N 0).1 =⟨l.toArray⟩then 0 else 4
def Zw (c:Int)(e:Ending):Prop:=∃a n k r,e=.returned (.tuple #[.agg #[.slice a n k,.int .i64 r],.int .i64 c])
theorem Zx (s:ByteArray)(hs:s.size<=65536)(w:aK)(T:jM w):
  bU aZ 58 #[.string s] w λe w'=>Zw (wL s.data.toList) e/\Below w.heap.size w w':=by
 have U:(⟨s.data.toList.toArray⟩:ByteArray)=s:=iH
 have H:=kC s
 have I:PLift (wL s.data.toList=match wF s.data.toList with
  |none=>4
  |some N=>if(qC N 0).2 =0/\(qC N 0).1 =s then 0 else 4):=⟨by unfold wL;rw[gZ (by rw[H];omega),U]⟩
 generalize wL s.data.toList=c at I⊢;have D:=ae λW:aK=>Zv s hs W
 have av:(s.size:Int)<=65536:=iE
 have ai:¬65536<(s.size:Int):=iE
 have aw:decide ((s.size:Int)>65536)=aS:=iw ai;have V:=ae (aW w (.cells #[.slice ag 0 0,.int .i64 0] 117));have E:=ae (iW w (.cells #[.slice ag 0 0,.int .i64 0] 117));have ak:=ae λ(W:aK) (al:Below w.heap.size w W)=>T.below al
 have am:=ae hs;clear T U hs;cases hp:wF s.data.toList with
 |none=>
  have l:=ae (show c=4 by rw[I.1,hp])
  have J:PLift (∀W:aK,bU aZ 63 #[.string s] W λe w'=>(∃a n k,e=.returned (.tuple #[.agg #[.slice a n k,.int .i64 0],.bool aS]))/\Below W.heap.size W w'):=⟨λW=>(D.1 W).mono λe w' h=>by rw[hp]at h;obtain⟨a,n,k,t,u⟩:=h;exact⟨⟨a,n,k,t⟩,u⟩⟩
  clear hp D;go_enter dA,dn
  go_wp2_with(go_at_call 63;refine(J.1 _).mono ?_;rintro e b ⟨⟨a,n,k,rfl⟩,m⟩;have K:=ae m;have q:=ae (Mix.lu m V.1);clear m;have L:b.cell? ⟨w.heap.size,0,ag⟩=aj (.slice ag 0 0):=(af q.1 0).trans rfl;have r1:b.cell? ⟨w.heap.size,1,ag⟩=aj (.int .i64 0):=(af q.1 1).trans rfl;have M:∀o,b.frozen? ⟨w.heap.size,o,ag⟩=aS:=λo=>aT q.1 o;have aD:w.heap.size<b.heap.size:=block_lt q.1)
  refine aC (v:=.tuple #[.agg #[.slice ag 0 0,.int .i64 0],.int .i64 4]) (by simp only[results,bu];go_simp) rfl ⟨⟨ag,0,0,0,by rw[l.1]⟩,?_⟩;have g:=E.1.trans (K.1.mono E.1.size);exact((g.setCell (p:=⟨w.heap.size,0,ag⟩) (aO _) _).setCell (p:=⟨w.heap.size,1,ag⟩) (aO _) _).alloc (by simp only[World.setCell,Array.size_modify];exact g.size) _
 |some N=>
  obtain⟨x,O,an⟩:=UH hp
  have J:PLift (∀W:aK,bU aZ 63 #[.string s] W λe w'=>(∃a k,e=.returned (.tuple #[.agg #[.slice a N.length k,.int .i64 0],.bool bJ])/\jJ w' (.slice a N.length k) N)/\Below W.heap.size W w'):=⟨λW=>(D.1 W).mono λe w' h=>by rw[hp]at h;obtain⟨v,t,u,ao⟩:=h;obtain⟨a,k,rfl,ap,aq⟩:=u;exact⟨⟨a,k,t,a,k,rfl,ap,aq⟩,ao⟩⟩
  have F:s.data.toList.length<=70000:=by rw[H];have:=am.1;omega
  have P:=ae λ(W:aK) (v:aP) (t:jJ W v N) (u:jM W)=>X9 W v 0 N t (x.Ya F) (x.texts F) u (x.Yb O _) (x.ends F O _)
  have l:=ae (show c=if(qC N 0).2 =0/\(qC N 0).1 =s then 0 else 4 by rw[I.1,hp]);generalize(qC N 0).1 =Q at P l;generalize(qC N 0).2 =R at P l;clear hp D x O an F H;go_enter dA,dn
  go_upto_region 6 with(go_at_call 63;refine(J.1 _).mono ?_;rintro e b ⟨⟨a,k,rfl,X⟩,m⟩;have ar:=ae X;have K:=ae m;have q:=ae (Mix.lu m V.1);clear m X)
  have Y:PLift (w.heap.size<b.heap.size):=⟨block_lt q.1⟩;have r:=ae (aW b (.cells #[.slice a N.length k,.int .i64 0] 117));have G:PLift ((b.alloc (.cells #[.slice a N.length k,.int .i64 0] 117)).heap[w.heap.size]?=aj (.cells #[.slice ag 0 0,.int .i64 0] 117)):=⟨by rw[bD _ _ _ Y.1];exact q.1⟩;have Z:=ae (ar.1.below (iW b (.cells #[.slice a N.length k,.int .i64 0] 117)));have i:PLift (Below w.heap.size w (b.alloc (.cells #[.slice a N.length k,.int .i64 0] 117))):=⟨(E.1.trans (K.1.mono E.1.size)).alloc (by have:=Y.1;omega) _⟩;obtain⟨y,aa⟩:=iC (b.alloc (.cells #[.slice a N.length k,.int .i64 0] 117));rw[aa]at r G Z i⊢;clear aa;have S:=ae (P.1 y _ Z.1 (ak.1 _ i.1));have aE:y.cell? ⟨b.heap.size,0,ag⟩=aj (.slice a N.length k):=(af r.1 0).trans rfl;have aF:y.cell? ⟨b.heap.size,1,ag⟩=aj (.int .i64 0):=(af r.1 1).trans rfl;by_cases z:R=0
  ·subst z
   by_cases A:Q=s
   ·subst A
    have B:PLift (c=0):=⟨by rw[l.1,gY ⟨rfl,rfl⟩]⟩
    go_wp2_with(go_at_call 64;refine(S.1).mono ?_;rintro e w3 ⟨rfl,d⟩;have C:=ae d;have j:=ae (Mix.lu d r.1);have f:=ae (Mix.lu d G.1);clear d;have L:w3.cell? ⟨w.heap.size,0,ag⟩=aj (.slice ag 0 0):=(af f.1 0).trans rfl;have r1:w3.cell? ⟨w.heap.size,1,ag⟩=aj (.int .i64 0):=(af f.1 1).trans rfl;have M:∀o,w3.frozen? ⟨w.heap.size,o,ag⟩=aS:=λo=>aT f.1 o;have ab:w3.cell? ⟨b.heap.size,0,ag⟩=aj (.slice a N.length k):=(af j.1 0).trans rfl;have ac:w3.cell? ⟨b.heap.size,1,ag⟩=aj (.int .i64 0):=(af j.1 1).trans rfl)
    refine aC (v:=.tuple #[.agg #[.slice a N.length k,.int .i64 0],.int .i64 0]) (by simp only[results,bu];go_simp) rfl ⟨⟨a,N.length,k,0,by rw[B.1]⟩,?_⟩;have g:=i.1.trans (C.1.mono i.1.size);exact(g.setCell (p:=⟨w.heap.size,0,ag⟩) (aO _) _).setCell (p:=⟨w.heap.size,1,ag⟩) (aO _) _
   ·have B:PLift (c=4):=⟨by rw[l.1,gZ (λh=>A h.2)]⟩
    have ad:(Q.toList==s.toList)=aS:=(by rw[iy];intro e;exact A (by rw[cZ,cZ]at e;exact ByteArray.ext (Array.ext' e)))
    have e3:(Q.toList !=s.toList)=bJ:=(by rw[bne,ad];rfl);have aG:=ae A;clear A
    go_wp2_with(go_at_call 64;refine(S.1).mono ?_;rintro e w3 ⟨rfl,d⟩;have C:=ae d;have j:=ae (Mix.lu d r.1);have f:=ae (Mix.lu d G.1);clear d;have L:w3.cell? ⟨w.heap.size,0,ag⟩=aj (.slice ag 0 0):=(af f.1 0).trans rfl;have r1:w3.cell? ⟨w.heap.size,1,ag⟩=aj (.int .i64 0):=(af f.1 1).trans rfl;have M:∀o,w3.frozen? ⟨w.heap.size,o,ag⟩=aS:=λo=>aT f.1 o;have ab:w3.cell? ⟨b.heap.size,0,ag⟩=aj (.slice a N.length k):=(af j.1 0).trans rfl;have ac:w3.cell? ⟨b.heap.size,1,ag⟩=aj (.int .i64 0):=(af j.1 1).trans rfl)
    refine aC (v:=.tuple #[.agg #[.slice ag 0 0,.int .i64 0],.int .i64 4]) (by simp only[results,bu];go_simp) rfl ⟨⟨ag,0,0,0,by rw[B.1]⟩,?_⟩;have g:=i.1.trans (C.1.mono i.1.size);exact(g.setCell (p:=⟨w.heap.size,0,ag⟩) (aO _) _).setCell (p:=⟨w.heap.size,1,ag⟩) (aO _) _
  ·have B:PLift (c=4):=⟨by rw[l.1,gZ (λh=>z h.1)]⟩
   have e1:(R==0)=aS:=(by rw[iy];exact z);have ad:(R !=0)=bJ:=(by rw[bne_iff_ne];exact z);clear z
   go_wp2_with(go_at_call 64;refine(S.1).mono ?_;rintro e w3 ⟨rfl,d⟩;have C:=ae d;have j:=ae (Mix.lu d r.1);have f:=ae (Mix.lu d G.1);clear d;have L:w3.cell? ⟨w.heap.size,0,ag⟩=aj (.slice ag 0 0):=(af f.1 0).trans rfl;have r1:w3.cell? ⟨w.heap.size,1,ag⟩=aj (.int .i64 0):=(af f.1 1).trans rfl;have M:∀o,w3.frozen? ⟨w.heap.size,o,ag⟩=aS:=λo=>aT f.1 o;have ab:w3.cell? ⟨b.heap.size,0,ag⟩=aj (.slice a N.length k):=(af j.1 0).trans rfl;have ac:w3.cell? ⟨b.heap.size,1,ag⟩=aj (.int .i64 0):=(af j.1 1).trans rfl)
   refine aC (v:=.tuple #[.agg #[.slice ag 0 0,.int .i64 0],.int .i64 4]) (by simp only[results,bu];go_simp) rfl ⟨⟨ag,0,0,0,by rw[B.1]⟩,?_⟩;have g:=i.1.trans (C.1.mono i.1.size);exact(g.setCell (p:=⟨w.heap.size,0,ag⟩) (aO _) _).setCell (p:=⟨w.heap.size,1,ag⟩) (aO _) _
end Go.Proofs.YthcalnnipjflkaaGreatDoor
