import Derived.Test.YthcalnnipjflkaaGreatDoorP19
open PLift renaming up -> ae
open Option renaming some -> af, none -> ag, map_eq_some_iff -> aH
open Go.Lib renaming cell_of_heap -> ah, byteCells -> aA, frozen_of_heap -> aC, byteCells_length -> aN, IsBuilder -> aT, OthersKept -> aZ
open List renaming getElem?_eq_getElem -> aj, replicate -> au, getD_eq_getElem?_getD -> ax, getElem_mem -> az, range -> aP, length_append -> bz, length_cons -> bD, range' -> bJ
open Go.Proofs.Tryz renaming prog -> ay, ntmps75 -> aW, func75 -> aX, results93 -> bn, underlying49 -> bC, results75 -> bF, ntmps93 -> bG, func93 -> bH
open Nat renaming not_lt_zero -> aB, zero_le -> bI
open Go renaming World -> aI, bodyPost_ret -> aK, heap_alloc_new -> aQ, Value -> aV, Calls -> bu
open Go.RowKit renaming Below -> aJ
open Bool renaming false -> aO, true -> aU
open Int renaming eq_ofNat_of_zero_le -> aS, toNat_natCast -> aY
set_option linter.all false
set_option maxHeartbeats 4000000
set_option maxRecDepth 100000
namespace Go.Proofs.YthcalnnipjflkaaGreatDoor
open Go.RowKit
open Go.Lib hiding intOf
theorem TabAt.below {w w':aI}{b r n:Nat}{v:aV}{root:Int}{E:List aV}(h:TabAt w b r v root n E)(a:aJ w.heap.size w w'):TabAt w' b r v root n E:=
 ⟨by rw[a.block _ (block_lt h.box)];exact h.box,by rw[a.block _ (block_lt h.row)];exact h.row,h.len,h.ne⟩
theorem Kv {L j:Nat}(b:j<L):((aP j).map (λi:Nat=>(i:Int))++au (L - j) 0).set j (j:Int)=(aP (j+1)).map (λi:Nat=>(i:Int))++au (L - (j+1)) 0:=by
 obtain⟨m,hm⟩:∃m,L - j=m+1:=⟨L - j - 1,iE⟩;have a:L - (j+1)=m:=iE
 rw[hm,a,List.replicate_succ,List.set_append,List.range_succ,List.map_append];simp
theorem Wx (w:aI)(v:aV)(root:Int)(N:List Nd)(tb d a:Nat)(E:List aV)(D:jJ w v N)(F:TabAt w tb d v root N.length E)(ha:a<N.length)(G:E.getD a jr=jr)(r:(N.getD a nd0).kind≠10\/(N.getD a nd0).ord=aU)(H:(N.getD a nd0).items.length<=4294967296):
  bu ay 93 #[.pointer (af ⟨tb,0,ag⟩),.int .i64 a] w λe w'=>∃f,e=.returned (.slice (af ⟨f,0,ag⟩) (N.getD a nd0).items.length (N.getD a nd0).items.length)/\w.heap.size<=f/\w'.heap[f]?=af (.cells (((aP (N.getD a nd0).items.length).map (λi:Nat=>(i:Int))).map (Value.int .i64)).toArray 3)/\TabAt w' tb d v root N.length (E.set a (.slice (af ⟨f,0,ag⟩) (N.getD a nd0).items.length (N.getD a nd0).items.length))/\w.grownBy w' (af d):=by
 have aL:=ae D;have I:=ae F;have aM:(a:Int)<(N.length:Int):=iE
 obtain⟨va,vc,rfl,aR,ab⟩:=D;rcases ab with ac|⟨b,o,rfl,J⟩
 ·exfalso;rw[ac]at ha;exact aB _ ha
 have K:=J a N[a] (aj ha);have L:N.getD a nd0=N[a]:=by rw[ax,aj ha];rfl
 rw[L]at r H⊢;generalize N[a]=n at K r H⊢;obtain⟨a0,s,M,ad,O,ai,P,ak,A⟩:=K;obtain⟨a1,a2,rfl,a3,A⟩:=A;have t:PLift (aJ w.heap.size w (w.alloc (.cells #[.pointer (af ⟨tb,0,ag⟩)] 138))):=⟨iW w _⟩;have al:=ae M;have am:=ae O;have an:=ae P;have ao:=ae r;have ap:=ae G;have Q:(w.alloc (.cells #[.pointer (af ⟨tb,0,ag⟩)] 138)).heap[w.heap.size]?=af (.cells #[.pointer (af ⟨tb,0,ag⟩)] 138):=aQ w _;have u:=ae Q;clear J L r M ad O ai P ak A F G Q
 as_aux_lemma=>
 go_enter bH,bG
 as_aux_lemma=>
 go_upto_region 1 with fail
 obtain⟨W0,R⟩:=iC (w.alloc (.cells #[.pointer (af ⟨tb,0,ag⟩)] 138));rw[R]at t u⊢;clear R;have S:=ae (I.1.below t.1);have B:W0.cell? ⟨w.heap.size,0,ag⟩=af (.pointer (af ⟨tb,0,ag⟩)):=(ah u.1 0).trans rfl;have aq:W0.cell? ⟨tb,0,ag⟩=af (.slice (af ⟨b,o,ag⟩) N.length vc):=(ah S.1.box 0).trans rfl
 as_aux_lemma=>
 go_upto_region 2 with fail
 clear B aq;have x:PLift (aJ W0.heap.size W0 (W0.alloc (.cells #[.pointer (af ⟨b,o+a*5,ag⟩)] 154))):=⟨iW W0 _⟩;have T:PLift ((W0.alloc (.cells #[.pointer (af ⟨b,o+a*5,ag⟩)] 154)).heap[W0.heap.size]?=af (.cells #[.pointer (af ⟨b,o+a*5,ag⟩)] 154)):=⟨aQ W0 _⟩;obtain⟨c,U⟩:=iC (W0.alloc (.cells #[.pointer (af ⟨b,o+a*5,ag⟩)] 154));rw[U]at x T⊢;clear U;have y:=ae (S.1.below x.1);have k:PLift (aJ w.heap.size w c):=⟨t.1.trans (x.1.mono t.1.size)⟩;have ar:PLift (c.heap[w.heap.size]?=af (.cells #[.pointer (af ⟨tb,0,ag⟩)] 138)):=⟨by rw[x.1.block _ (block_lt u.1)];exact u.1⟩;have B:c.cell? ⟨w.heap.size,0,ag⟩=af (.pointer (af ⟨tb,0,ag⟩)):=(ah ar.1 0).trans rfl;have av:c.cell? ⟨tb,2,ag⟩=af (.slice (af ⟨d,0,ag⟩) N.length N.length):=(ah y.1.box 2).trans rfl
 have aw:c.cell? ⟨d,a,ag⟩=af (.slice ag 0 0):=by
  have V:a<E.length:=by rw[I.1.len];exact ha
  have he:=ap.1;rw[ax,aj V]at he;rw[ah y.1.row];simp only[List.getElem?_toArray,aj V];exact ig af he
 have aD:c.cell? ⟨W0.heap.size,0,ag⟩=af (.pointer (af ⟨b,o+a*5,ag⟩)):=(ah T.1 0).trans rfl;have a4:=iU k.1 an.1
 have a5:∀m:aI,(Instr.makeSlice 36 (.int .i64 (n.items.length:Int)) (.int .i64 (n.items.length:Int))).run ay m=.ok (.slice (af ⟨m.heap.size,0,ag⟩) n.items.length n.items.length) (m.alloc (.cells (Array.replicate n.items.length (.int .i64 0)) 3)):=λm=>by rw[run_make_row' 36 3 (.int .i64 0) 8 Tryz.underlying36 su rfl .i64 .i64 n.items.length iE iE m,sD]
 as_aux_lemma=>
 go_wp2
 go_loopw [38] (λs wr=>∃j:Nat,s=.int .i64 j/\j<=n.items.length/\wr.heap[c.heap.size]?=af (.cells (((aP j).map (λi:Nat=>(i:Int))++au (n.items.length - j) 0).map (Value.int .i64)).toArray 3)/\aJ c.heap.size c wr) (λs _=>n.items.length - (intOf s).toNat)
 case atStart=>exact⟨0,rfl,bI _,by rw[aQ];simp,iW c _⟩
 case round=>
  as_aux_lemma=>
  obtain⟨j,rfl,a6,X,Y⟩:=hrel;have z:=ae X;have g:=ae Y;clear X Y;by_cases aE:j<n.items.length
  ·have a7:(j:Int)<(n.items.length:Int):=iE
   have e1:wr.cell? ⟨c.heap.size,j,ag⟩=af (.int .i64 (((aP j).map (λi:Nat=>(i:Int))++au (n.items.length - j) 0).getD j 0)):=kJ z.1 iI;have a8:∀o,wr.frozen? ⟨c.heap.size,o,ag⟩=aO:=λo=>aC z.1 o
   generalize((aP j).map (λi:Nat=>(i:Int))++au (n.items.length - j) 0).getD j 0=a9 at e1
   as_aux_lemma=>
   go_wp2;go_roundw
   case rel=>exact⟨j+1,by go_num,iE,by rw[<-Kv aE];simp[World.setCell,Array.getElem?_modify,z.1,List.map_set],g.1.setCell (p:=⟨c.heap.size,j,ag⟩) (Nat.le_refl _) _⟩
   case measure=>simp[intOf];omega
  ·obtain rfl:j=n.items.length:=iE
   have l:=ae (y.1.below g.1);have ba:wr.cell? ⟨w.heap.size,0,ag⟩=af (.pointer (af ⟨tb,0,ag⟩)):=iU g.1 B;have bb:wr.cell? ⟨W0.heap.size,0,ag⟩=af (.pointer (af ⟨b,o+a*5,ag⟩)):=iU g.1 aD;have bc:wr.cell? ⟨tb,2,ag⟩=af (.slice (af ⟨d,0,ag⟩) N.length N.length):=iU g.1 av;have ds:wr.cell? ⟨d,a,ag⟩=af (.slice ag 0 0):=iU g.1 aw;have bd:∀o,wr.frozen? ⟨d,o,ag⟩=aO:=λo=>aC l.1.row o
   have g0:=iU g.1 (iU k.1 al.1);have g2:=iU g.1 (iU k.1 am.1);have aF:=ae (k.1.trans (g.1.mono k.1.size));have aG:PLift (w.heap.size<=c.heap.size):=⟨k.1.size⟩
   have Z:PLift (∀W,W=wr.setCell ⟨d,a,ag⟩ (.slice (af ⟨c.heap.size,0,ag⟩) n.items.length n.items.length)->∃f,Ending.returned (.slice (af ⟨c.heap.size,0,ag⟩) n.items.length n.items.length)=.returned (.slice (af ⟨f,0,ag⟩) n.items.length n.items.length)/\w.heap.size<=f/\W.heap[f]?=af (.cells (((aP n.items.length).map (λi:Nat=>(i:Int))).map (Value.int .i64)).toArray 3)/\TabAt W tb d (.slice (af ⟨b,o,ag⟩) N.length vc) root N.length (E.set a (.slice (af ⟨f,0,ag⟩) n.items.length n.items.length))/\w.grownBy W (af d)):=by
    refine⟨λW C=>⟨c.heap.size,rfl,aG.1,?_,?_,?_⟩⟩
    ·rw[C,jm _ (by have:=block_lt y.1.row;omega),z.1];simp
    ·rw[C]
     exact⟨by rw[jm _ l.1.ne];exact l.1.box,by simp[World.setCell,Array.getElem?_modify,l.1.row],by simpa using l.1.len,l.1.ne⟩
    ·rw[C];exact(CZ aF.1 (af d)).trans (lN wr d a _)
   by_cases q:n.kind=10
   ·have aa:n.ord=aU:=by
     rcases ao.1 with h|h
     ·exact absurd q h
     ·exact h
    rw[q]at g0;rw[aa]at g2;clear aa q
    as_aux_lemma=>
    go_wp2;refine aK (v:=.slice (af ⟨c.heap.size,0,ag⟩) n.items.length n.items.length) (by simp only[results,bn];go_simp) rfl ?_;exact Z.1 _ rfl
   ·have be:(n.kind==10)=aO:=by simpa using q
    clear q
    as_aux_lemma=>
    go_wp2;refine aK (v:=.slice (af ⟨c.heap.size,0,ag⟩) n.items.length n.items.length) (by simp only[results,bn];go_simp) rfl ?_;exact Z.1 _ rfl
theorem Wy (w:aI)(v:aV)(root:Int)(N:List Nd)(tb j a f L c:Nat)(E:List aV)(s:jJ w v N)(k:TabAt w tb j v root N.length E)(ha:a<N.length)(l:E[a]?=af (.slice (af ⟨f,0,ag⟩) L c)):
  bu ay 93 #[.pointer (af ⟨tb,0,ag⟩),.int .i64 a] w λe w'=>e=.returned (.slice (af ⟨f,0,ag⟩) L c)/\aJ w.heap.size w w':=by
 have t:=ae k;have u:=ae l;have B:(a:Int)<(N.length:Int):=iE
 obtain⟨va,vc,rfl,C,x⟩:=s;rcases x with y|⟨b,o,rfl,-⟩
 ·exfalso;rw[y]at ha;exact aB _ ha
 have g:PLift (aJ w.heap.size w (w.alloc (.cells #[.pointer (af ⟨tb,0,ag⟩)] 138))):=⟨iW w _⟩;have h:PLift ((w.alloc (.cells #[.pointer (af ⟨tb,0,ag⟩)] 138)).heap[w.heap.size]?=af (.cells #[.pointer (af ⟨tb,0,ag⟩)] 138)):=⟨aQ w _⟩;clear k l
 as_aux_lemma=>
 go_enter bH,bG
 as_aux_lemma=>
 go_upto_region 1 with fail
 obtain⟨W0,m⟩:=iC (w.alloc (.cells #[.pointer (af ⟨tb,0,ag⟩)] 138));rw[m]at g h⊢;clear m;have n:=ae (t.1.below g.1);have p:W0.cell? ⟨w.heap.size,0,ag⟩=af (.pointer (af ⟨tb,0,ag⟩)):=(ah h.1 0).trans rfl;have z:W0.cell? ⟨tb,0,ag⟩=af (.slice (af ⟨b,o,ag⟩) N.length vc):=(ah n.1.box 0).trans rfl
 as_aux_lemma=>
 go_upto_region 2 with fail
 clear p z;have i:PLift (aJ W0.heap.size W0 (W0.alloc (.cells #[.pointer (af ⟨b,o+a*5,ag⟩)] 154))):=⟨iW W0 _⟩;obtain⟨d,q⟩:=iC (W0.alloc (.cells #[.pointer (af ⟨b,o+a*5,ag⟩)] 154));rw[q]at i⊢;clear q;have r:=ae (n.1.below i.1);have A:PLift (d.heap[w.heap.size]?=af (.cells #[.pointer (af ⟨tb,0,ag⟩)] 138)):=⟨by rw[i.1.block _ (block_lt h.1)];exact h.1⟩;have p:d.cell? ⟨w.heap.size,0,ag⟩=af (.pointer (af ⟨tb,0,ag⟩)):=(ah A.1 0).trans rfl;have D:d.cell? ⟨tb,2,ag⟩=af (.slice (af ⟨j,0,ag⟩) N.length N.length):=(ah r.1.box 2).trans rfl
 have F:d.cell? ⟨j,a,ag⟩=af (.slice (af ⟨f,0,ag⟩) L c):=by rw[ah r.1.row];simpa using u.1
 as_aux_lemma=>
 go_wp2;refine aK (v:=.slice (af ⟨f,0,ag⟩) L c) (by simp only[results,bn];go_simp) rfl ?_;exact⟨rfl,g.1.trans (i.1.mono g.1.size)⟩
theorem XC {Q:Exit->Act->aI->Prop}{id:Nat}{a:Act}{w:aI}{l:List Oper}(n:Nat)(b c os:Oper){aF:Act}(ns:List UInt8){B:Nat}{v:aV}{acc:List UInt8}
  (g:l.length=n+3)(hs:Region.noSelect l.toArray=aU)(h:Mix.kN .any l.toArray n 0 (Array.replicate l.length aO)=af (au n aU++au (l.length - n) aO).toArray)
  (hd:Mix.kS a.tmps.size (l.take n) []=aU)(e:l[n]?=af b)(f:l[n+1]?=af c)(i:l[n+2]?=af os)(g1:b.guard=ag)(g2:c.guard=ag)(j:os.guard=ag)
  (k:Region.ready .any l.toArray (au n aU++au 3 aO).toArray=[n])
  (m:Region.ready .any l.toArray ((au n aU++au 3 aO).toArray.setIfInBounds n aU)=[n+1])
  (o:Region.ready .any l.toArray (((au n aU++au 3 aO).toArray.setIfInBounds n aU).setIfInBounds (n+1) aU)=[n+2])
  (p:Region.ready .any l.toArray ((((au n aU++au 3 aO).toArray.setIfInBounds n aU).setIfInBounds (n+1) aU).setIfInBounds (n+2) aU)=[])
  (s x:Operand)(q:c.op=.call {callee:=.builtin .append,args:=#[s,x],argTypes:=#[49,49]})
  (r:OwnB B v acc w)(F:acc.length+ns.length<=140737488355328)(t:B<=w.heap.size)
  (hA:∀ρ:aI,aJ B w ρ->wpQuiet ay l.toArray (λw'=>∃n,w'=ρ.drewN n) (λa'=>a'=aF) (l.take n) a)
  (u:∀W:aI,(execOp aF.eval b).run ay W=.ok (.value (.slice (af ⟨W.heap.size,0,ag⟩) ns.length ns.length)) (W.alloc (.cells (byteCells ns).toArray 5)))
  (y:∀d,(aF.put b.dst d).eval s=v)(hx:∀d,(aF.put b.dst d).eval x=d)
  (z:∀d v' W,(execOp ((aF.put b.dst d).put c.dst v').eval os).run ay W=.ok (.value v') W)
  (hK:∀v' W,OwnB B v' (acc++ns) W->aJ B w W->Q .normal (((aF.put b.dst (.slice (af ⟨w.heap.size,0,ag⟩) ns.length ns.length)).put c.dst v').put os.dst v') W):(Code.region id l.toArray aU).wp ay Q a w:=by
 obtain⟨A,hi,C,D,E⟩:=info_parts xQ;refine Mix.XB n B b c os iF g hs h hd e f i g1 g2 j k m o p hA (byteCells ns).toArray 5 ns.length ns.length u s x 49 q A (.int .u8 0) 1 1 bC hi C D E rfl iG v acc.length (byteCells acc) r y hx (by simp[byteCells]) (by simpa using AP ns) (by unfold maxLen;omega) iE t z ?_;intro v' W e f;refine hK v' W ?_ f;unfold OwnB;rw[byteCells_append,bz];exact e
def qx (c:UInt8):List UInt8:=[qX (c/16),qX (c%16)]
def o7 (n:Nd):ByteArray:=if n.kind=6 then⟨(35::n.text.data.toList.flatMap qx).toArray⟩else CY n
theorem KN (l:List UInt8):(l.flatMap qx).length=2*l.length:=by
 induction l with
 |nil=>rfl
 |cons c l a=>rw[List.flatMap_cons,bz,a,bD];show 2+_=_;omega
theorem XD {l:List UInt8}{i:Nat}(hi:i<l.length):(l.take (i+1)).flatMap qx=(l.take i).flatMap qx++qx l[i]:=by rw[List.take_succ_eq_append_getElem hi,List.flatMap_append,List.flatMap_singleton]
theorem XE (n:Nd)(w:aI)(b o:Nat)(hn:vH w b o n)(hs:n.text.size<=1073741824)(j:n.kind=6):
  bu ay 91 #[.pointer (af ⟨b,o,ag⟩)] w λe w'=>e=.returned (.string (o7 n))/\aJ w.heap.size w w':=by
 obtain⟨M,d,A,k,-⟩:=hn;have p:PLift (o7 n=⟨(35::n.text.data.toList.flatMap qx).toArray⟩):=⟨by unfold o7;rw[gY j]⟩;rw[j]at A;generalize n.text=t at k p hs;have q:t.data.toList.length=t.size:=iH
 have N:(t.size:Int)<=1073741824:=iE
 obtain⟨l,r⟩:=iC t.data.toList;have a:=ae (And.intro r (And.intro q hs));rw[r]at p q;have B:=ae k;have C:=ae (NL w 35);have D:=ae (iW w (.cells #[.int .u8 (35:UInt8).toNat] 5));clear r q j
 as_aux_lemma=>
 go_enter Tryz.func91,Tryz.ntmps91
 as_aux_lemma=>
 go_upto_region 8 with fail
 have O:=λE=>iU (iW w E) k
 go_wp2
 go_loopw [3,26] (λf d wr=>∃i:Nat,d=.int .i64 i/\i<=l.length/\OwnB w.heap.size f (35::(l.take i).flatMap qx) wr/\aJ w.heap.size w wr) (λ_ d _=>l.length - (intOf d).toNat)
 case atStart=>exact⟨0,rfl,bI _,C.1,D.1⟩
 case round=>
  as_aux_lemma=>
  obtain⟨i,rfl,hi,s,u⟩:=hrel;obtain⟨x,F⟩:∃x:aI,x=wr:=⟨_,rfl⟩;subst F;have c:=ae (And.intro s u);clear s u;by_cases g:i<l.length
  ·have P:i<t.size:=by rw[<-a.1.2.1,a.1.1];exact g
   have Q:(i:Int)<(t.size:Int):=iE
   have G:PLift ((35::(l.take (i+1)).flatMap qx)=(35::(l.take i).flatMap qx)++[qX (t[i]/16),qX (t[i]%16)]):=⟨by
    rw[XD g]
    have e:l[i]=t[i]:=by
     have h:=a.1.1;subst h;simp
     rfl
    rw[e]
    rfl⟩
   have H:PLift ((35::(l.take i).flatMap qx).length+2<=140737488355328):=⟨by
    rw[bD,KN,List.length_take];have:=a.1.2.1;rw[a.1.1]at this;have:=a.1.2.2
    omega⟩
   have y:=ae g;have I:=NM t[i];have i2:=NP t[i];clear g
   as_aux_lemma=>
   go_upto_region 11 with fail
   refine XC (aF:=?_) 17 _ _ _ [qX (t[i]/16),qX (t[i]%16)] rfl iF iF iF rfl rfl rfl rfl rfl rfl iF iF iF iF _ _ rfl c.1.1 H.1 c.1.2.size ?_ ?_ ?_ ?_ ?_ ?_;rotate_left 1
   ·intro ρ J
    have R:=λn=>iU (below_drewN (c.1.2.trans J) n) B.1
    simp only[List.take_succ_cons,List.take_zero]
    repeat(go_big_quiet_step(fail))
    refine wpQuiet_nil ?_;exact rfl
   ·intro W
    go_simp
    rfl
   ·intro f;rfl
   ·intro f;rfl
   ·intro f v' W;rfl
   ·clear I i2
    intro v' S K L;simp only[Act.put,List.setIfInBounds_toArray,List.set_cons_zero,List.set_cons_succ];go_wp2;go_roundw
    case rel=>exact⟨i+1,by go_num,by have:=y.1;omega,by rw[G.1];exact K,c.1.2.trans L⟩
    case measure=>have:=y.1;simp[intOf];omega
  ·obtain rfl:i=l.length:=iE
   have hcv:=F5 c.1.1;rw[List.take_length]at hcv;obtain⟨T,U,z⟩:=c.1.1.slice;have V:¬((l.length:Int)<(t.size:Int)):=(by have:=a.1.2.1;rw[a.1.1]at this;omega);generalize(35::(l.take l.length).flatMap qx).length=m at z;subst z
   as_aux_lemma=>
   go_wp2;refine aK (v:=.string ⟨(35::l.flatMap qx).toArray⟩) (by simp only[results,Tryz.results91];go_simp) rfl ?_;exact⟨by rw[p.1],c.1.2⟩
theorem KP (n:Nd)(w:aI)(b o:Nat)(hn:vH w b o n)(hs:n.text.size<=1073741824):
  bu ay 91 #[.pointer (af ⟨b,o,ag⟩)] w λe w'=>e=.returned (.string (o7 n))/\aJ w.heap.size w w':=by
 by_cases a:n.kind=6
 ·exact XE n w b o hn hs a
 ·have h:=Wu n w b o hn hs a
  unfold o7;rw[gZ a];exact h
def wI (n:Nd):Int:=
 if n.kind=9 then 2+max 0 ((n.items.length:Int) - 1)else if n.kind=10 then 2+max 0 ((n.items.length:Int) - 1)else if n.kind=11 then 3+(n.text.size:Int)else((o7 n).size:Int)
def stepG (rec:Nat->List Int->Option (List Int))(n:Nd)(st:Int×List Int)(i:Nat):Option (Int×List Int):=
 (if n.kind=10 then(rec (n.keys.getD i 0).toNat st.2).map λK=>(wrap64 (st.1 +wrap64 (1+K.getD (n.keys.getD i 0).toNat 0)),K)else af st).bind λst=>(rec (n.items.getD i 0).toNat st.2).map λK=>(wrap64 (st.1 +K.getD (n.items.getD i 0).toNat 0),K)
def qy (N:List Nd):Nat->Nat->List Int->Option (List Int)
 |0,_,_=>ag
 |f+1,a,K=>if 0<=K.getD a 0 then af K else((bJ 0 (N.getD a nd0).items.length).foldlM (stepG (qy N f) (N.getD a nd0)) (wI (N.getD a nd0),K)).map λst=>st.2.set a (min st.1 65537)
theorem FC {rec:Nat->List Int->Option (List Int)}{n:Nd}{st a:Int×List Int}{i:Nat}(b:n.kind≠10)(h:stepG rec n st i=af a):∃K,rec (n.items.getD i 0).toNat st.2 =af K/\a=(wrap64 (st.1 +K.getD (n.items.getD i 0).toNat 0),K):=by unfold stepG at h;rw[gZ b]at h;obtain⟨K,c,d⟩:=aH.1 (show(rec (n.items.getD i 0).toNat st.2).map _=af a from h);exact⟨K,c,d.symm⟩
theorem XF {rec:Nat->List Int->Option (List Int)}{n:Nd}{st b:Int×List Int}{i:Nat}(c:n.kind=10)(h:stepG rec n st i=af b):∃a K,rec (n.keys.getD i 0).toNat st.2 =af a/\rec (n.items.getD i 0).toNat a=af K/\b=(wrap64 (wrap64 (st.1 +wrap64 (1+a.getD (n.keys.getD i 0).toNat 0))+K.getD (n.items.getD i 0).toNat 0),K):=by unfold stepG at h;rw[gY c]at h;obtain⟨k,d,e⟩:=Option.bind_eq_some_iff.1 h;obtain⟨a,f,rfl⟩:=aH.1 d;obtain⟨K,g,j⟩:=aH.1 e;exact⟨a,K,f,g,j.symm⟩
theorem XG (w0:aI)(v:aV)(root:Int)(Q:aV)(N:List Nd)(tb c:Nat)(hR:nN N)(be:∀n∈N,n.text.size<=1073741824)(bf:∀n∈N,n.kind=10->n.keys.length=n.items.length):∀(f a:Nat) (K K':List Int) (w:aI),qy N f a K=af K'->a<N.length->LW w0 v root Q N tb c K w->
  bu ay 75 #[.pointer (af ⟨tb,0,ag⟩),.int .i64 a,.slice (af ⟨c,0,ag⟩) N.length N.length] w λe w'=>e=.returned (.int .i64 (K'.getD a 0))/\LW w0 v root Q N tb c K' w'/\w.grownBy w' (af c):=by
 intro f
 induction f with
 |zero=>intro a K K' w h;cases h
 |succ f ac=>
  intro a K K' w h ha j;have ad:=ae ac;have C:=ae j;have bg:a<K.length:=by rw[j.xM];exact ha
  have b7:(a:Int)<(N.length:Int):=iE
  have aF:w.cell? ⟨c,a,ag⟩=af (.int .i64 (K.getD a 0)):=kJ j.pR bg;by_cases R:0<=K.getD a 0
  ·unfold qy at h
   rw[gY R]at h;obtain rfl:=Option.some.inj h;obtain⟨y,hy⟩:=iC (K.getD a 0);have bh:=ae hy;rw[hy]at aF R;clear h hy ac j
   as_aux_lemma=>
   go_enter aX,aW;go_wp2;refine aK (v:=.int .i64 y) (by simp only[results,bF];go_simp) rfl ?_;exact⟨by rw[bh.1],C.1,yf _ _⟩
  ·unfold qy at h
   rw[gZ R]at h;obtain⟨aG,S,hK'⟩:=aH.1 h;have bi:=ae hK';obtain⟨va,vc,bj,bk,bl⟩:=j.nodes;subst bj;rcases bl with z|⟨b,o,rfl,aL⟩
   ·exfalso;rw[z]at ha;exact aB _ ha
   have ai:=aL a N[a] (aj ha);have aM:N.getD a nd0=N[a]:=(by rw[ax,aj ha];rfl);have ak:=hR N[a] (az ha);have E:=be N[a] (az ha);have al:=bf N[a] (az ha);rw[aM]at S;generalize N[a]=n at ai ak E al S;have bm:=ae ai;have am:=ae ak;have b8:=ae E;have aR:=ae al;obtain⟨b9,T,U,a0,bo,a1,an,V,W⟩:=ai;obtain⟨ca,cb,rfl,cc,V⟩:=V;obtain⟨cd,ce,rfl,cf,W⟩:=W;have bp:=ae V;have a2:=ae W;have a3:=ae U;have bq:=ae a1;have br:=ae an;have bs:PLift (∀wr,LW w0 (.slice (af ⟨b,o,ag⟩) N.length vc) root Q N tb c K wr->True):=⟨λ_ _=>trivial⟩;have bt:w.cell? ⟨tb,0,ag⟩=af (.slice (af ⟨b,o,ag⟩) N.length vc):=(ah j.tab 0).trans rfl;have bv:=iU j.below U;have cg:=iU j.below a0;have bw:=iU j.below an;have bx:K.getD a 0<0:=iE;generalize K.getD a 0=y at aF bx;have D:=ae S;have ch:b<w0.heap.size:=World.block_lt_of_cell? w0 _ U;have a4:=ae (KP n w b (o+a*5) (bm.1.below j.below) E);have bA:=ae E;have F:PLift (wI n=if n.kind=9 then 2+max 0 ((n.items.length:Int) - 1)else if n.kind=10 then 2+max 0 ((n.items.length:Int) - 1)else if n.kind=11 then 3+(n.text.size:Int)else((o7 n).size:Int)):=⟨rfl⟩;have bB:PLift (n.kind=n.kind):=⟨rfl⟩;obtain⟨k,ao⟩:=iC n.kind;rw[ao]at bv a3 F aR;have a5:=ae ao;clear h hK' ac j bk aL aM ak E al S R U a0 bo a1 an V W ao bB bs;by_cases u:k=9
   case' pos=>have A:PLift (wI n=2+max 0 ((n.items.length:Int) - 1)):=⟨by rw[F.1,gY u]⟩;have bE:k≠10:=iE;subst u;rw[A.1]at D;have G:=ae (And.intro C.1 (yf w (af c)));go_enter aX,aW;go_wp2
   case' neg=>
    by_cases r:k=10
    case' pos=>have A:PLift (wI n=2+max 0 ((n.items.length:Int) - 1)):=⟨by rw[F.1,gZ u,gY r]⟩;clear u;subst r;rw[A.1]at D;have G:=ae (And.intro C.1 (yf w (af c)));go_enter aX,aW;go_wp2
    case' neg=>
     have bE:k≠10:=r;by_cases X:k=11
     case' pos=>have A:PLift (wI n=3+(n.text.size:Int)):=⟨by rw[F.1,gZ u,gZ r,gY X]⟩;clear u r;have ci:=bA.1;subst X;rw[A.1]at D;have G:=ae (And.intro C.1 (yf w (af c)));go_enter aX,aW;go_wp2
     case' neg=>
      have A:PLift (wI n=((o7 n).size:Int)):=⟨by rw[F.1,gZ u,gZ r,gZ X]⟩;have cj:(k==9)=aO:=(by simpa using u);have ck:(k==10)=aO:=(by simpa using r);have cl:(k==11)=aO:=(by simpa using X);have cm:=ae (And.intro C.1 (yf w (af c)));rw[A.1]at D;generalize o7 n=cn at a4 D;go_enter aX,aW
      go_wp2_with(go_at_call 91;refine(a4.1).mono ?_;rintro e co ⟨rfl,Y⟩;have G:=ae (And.intro (C.1.below2 Y) (CZ Y (af c)));have cp:=iU Y bw;clear Y)
   all_goals
    go_loopw [8,58] (λbL T wr=>∃(i m:Nat) (sum:Int) (s:List Int),T=.int .i64 i/\i+m=n.items.length/\bL=.int .i64 sum/\(bJ i m).foldlM (stepG (qy N f) n) (sum,s)=af aG/\LW w0 (.slice (af ⟨b,o,ag⟩) N.length vc) root Q N tb c s wr/\w.grownBy wr (af c)) (λ_ T _=>n.items.length - (intOf T).toNat)
    case atStart=>exact⟨0,n.items.length,_,K,rfl,iE,rfl,D.1,G.1.1,G.1.2⟩
    case round=>
     as_aux_lemma=>
     obtain⟨i,m,sum,s,rfl,cq,rfl,t,d,H⟩:=hrel;have Z:=ae d;have a6:=ae H;have d0:=iU d.below a3.1;have bt:wr.cell? ⟨tb,0,ag⟩=af (.slice (af ⟨b,o,ag⟩) N.length vc):=(ah d.tab 0).trans rfl;have cr:=iU d.below br.1;cases m with
     |succ m=>
      rw[List.range'_succ]at t;obtain⟨cs,aa,t⟩:=C9 t;have l:i<n.items.length:=iE;have ct:(i:Int)<(n.items.length:Int):=iE;by_cases r:n.kind=10
      ·first
       |exfalso;have:=a5.1;omega
       |obtain⟨bM,I,J,q,g⟩:=XF r aa
        have L:i<n.keys.length:=(by rw[aR.1 rfl];exact l);have cv:(i:Int)<(n.keys.length:Int):=iE;have ab:=am.1.1 n.keys[i] (az L);have a7:n.keys.getD i 0=n.keys[i]:=(by rw[ax,aj L];rfl);rw[a7]at J g;rcases bp.1 with z|⟨lk,cw,rfl,ap⟩
        ·exfalso;rw[z]at L;exact aB _ L
        have bN:=iU Z.1.below (ap i n.keys[i] (aj L));have cx:=iU Z.1.below bq.1;have cy:=ae ap;generalize n.keys[i]=cz at ab bN J g;obtain⟨a8,rfl⟩:=aS ab.1;have bO:a8<N.length:=(by have:=ab.2;omega);simp only[aY]at J g;have bR:=ae (ad.1 a8 _ bM wr J bO Z.1);clear ap ab a7 J;have hx:=am.1.2 n.items[i] (az l);have M:n.items.getD i 0=n.items[i]:=(by rw[ax,aj l];rfl);rw[M]at q g;rcases a2.1 with z|⟨bS,lo,rfl,B⟩
        ·exfalso;rw[z]at l;exact aB _ l
        have aq:=iU d.below (B i n.items[i] (aj l));generalize n.items[i]=x at hx aq q g;obtain⟨p,rfl⟩:=aS hx.1;have hp:p<N.length:=(by have:=hx.2;omega);simp only[aY]at q g;have ar:=ae q;subst g;have av:=ae t;have bX:=ae B;clear B hx M q t aa d H
        as_aux_lemma=>
        go_upto_region 17 with(go_at_call 75;refine(bR.1).mono ?_;rintro e b0 ⟨rfl,a9,ba⟩;have b1:=ae a9;have b2:=ae ba;clear a9 ba)
        have aw:=ae (ad.1 p _ I b0 ar.1 hp b1.1)
        as_aux_lemma=>
        go_wp2_with(go_at_call 75;refine(aw.1).mono ?_;rintro e w3 ⟨rfl,O,P⟩;have aD:=ae O;have aE:=ae P;clear O P)
        go_roundw
        case rel=>exact⟨i+1,m,_,I,by go_num,iE,rfl,av.1,aD.1,(a6.1.trans b2.1).trans aE.1⟩
        case measure=>simp[intOf];omega
      ·first
       |exfalso;have:=a5.1;omega
       |obtain⟨I,q,g⟩:=FC r aa
        have hx:=am.1.2 n.items[i] (az l);have M:n.items.getD i 0=n.items[i]:=(by rw[ax,aj l];rfl);rw[M]at q g;rcases a2.1 with z|⟨bS,lo,rfl,B⟩
        ·exfalso;rw[z]at l;exact aB _ l
        have aq:=iU d.below (B i n.items[i] (aj l));generalize n.items[i]=x at hx aq q g;obtain⟨p,rfl⟩:=aS hx.1;have hp:p<N.length:=(by have:=hx.2;omega);simp only[aY]at q g;have ar:=ae q;subst g;have av:=ae t;have bX:=ae B;clear B hx M q t aa d H;have aw:=ae (ad.1 p _ I wr ar.1 hp Z.1)
        as_aux_lemma=>
        go_wp2_with(go_at_call 75;refine(aw.1).mono ?_;rintro e w3 ⟨rfl,O,P⟩;have aD:=ae O;have aE:=ae P;clear O P)
        go_roundw
        case rel=>exact⟨i+1,m,_,I,by go_num,iE,rfl,av.1,aD.1,a6.1.trans aE.1⟩
        case measure=>simp[intOf];omega
     |zero=>
      have b3:i=n.items.length:=iE;subst b3;have bb:(sum,s)=aG:=Option.some.inj t;have bc:PLift (K'=s.set a (min sum 65537)):=⟨by rw[<-bi.1,<-bb]⟩;have bd:a<s.length:=(by rw[d.xM];exact ha);have e1:wr.cell? ⟨c,a,ag⟩=af (.int .i64 (s.getD a 0)):=kJ d.pR bd;have cA:∀o,wr.frozen? ⟨c,o,ag⟩=aO:=λo=>aC d.pR o
      have b4:=ae (d.set a (min sum 65537));have b5:=ae (H.trans (lN wr c a (.int .i64 (min sum 65537))));have b6:PLift ((s.set a (min sum 65537)).getD a 0=min sum 65537):=⟨by rw[mZ,gY ⟨rfl,bd⟩]⟩;generalize s.getD a 0=cB at e1;clear bb t d H
      as_aux_lemma=>
      go_wp2;refine aK (v:=.int .i64 (min sum 65537)) (by simp only[results,bF];go_simp) rfl ?_;exact⟨by rw[bc.1,b6.1],by rw[bc.1];exact b4.1,b5.1⟩
theorem KY {B:Nat}{e size n:Nat}{v:aV}{xs:List aV}{w:aI}(h:w.ownsRow B e size v n xs)(g:Nat)(hv:v.ownBlock=af g):∃c a,w.heap[g]?=af (.cells c e a):=by
 rcases h.2 with⟨rfl,-⟩|⟨g',cap,b,rfl,-,d,-⟩
 ·cases hv
 ·cases Option.some.inj hv
  exact⟨b,_,d⟩
theorem KZ (B b:Nat)(a:List aV)(w:aI)(h:aT 51 5 B b a w):
  bu ay 32 #[.pointer (af ⟨b,0,ag⟩)] w λe w'=>e=.returned (.tuple #[])/\(Lib.BuilderAt 51 5 B b (.pointer (af ⟨b,0,ag⟩)) a w'/\aJ B w w'/\aZ 5 (af b) w w'):=by
 rcases h with h|h
 ·refine(Ko b w h.cell0 h.shape h.frozen0).mono ?_
  rintro e w' ⟨rfl,rfl⟩;exact⟨rfl,h.used _,(Below.refl B w).setCell (p:=⟨b,0,ag⟩) h.1 _,(OthersKept.refl _ _ w).setCell ⟨b,0,ag⟩ rfl _⟩
 ·refine(J9 b w h.cell0).mono ?_
  rintro e w' ⟨rfl,rfl⟩;exact⟨rfl,h,Below.refl B _,OthersKept.refl _ _ _⟩
theorem La (B b:Nat)(l:List UInt8)(s:ByteArray)(w:aI)(h:aT 51 5 B b (aA l) w)(q:l.length+s.size<=140737488355328)(r:B<=w.heap.size):
  bu ay 17 #[.pointer (af ⟨b,0,ag⟩),.string s] w λe w'=>e=.returned (.tuple #[.int .i64 s.size,.nilIface])/\(aT 51 5 B b (aA (l++s.data.toList)) w'/\aJ B w w'/\aZ 5 (af b) w w'):=by
 go_enter Tryz.func17,Tryz.ntmps17
 go_wp2_with(go_at_call 32;refine(KZ B b _ _ h).mono ?_)
 rintro e f ⟨rfl,t,j,k⟩;obtain⟨m,v,c,i,u⟩:=t;rw[aN]at i;have D:f.cell? ⟨b,0,ag⟩=af (.pointer (af ⟨b,0,ag⟩)):=by rw[ah c];rfl
 have E:f.cell? ⟨b,1,ag⟩=af v:=by rw[ah c];rfl
 have x:=ae k;have y:=ae i;clear k
 go_wp2_with(at_builtin;refine Nj _ rfl _ _ rfl rfl (B:=B) i s rfl q (Nat.le_trans r j.size) ?_)
 intro v' a n z o;have A:PLift (aZ 5 (af b) w a):=⟨x.1.grown o λg hv=>KY y.1 g hv⟩;have C:b<f.heap.size:=(Array.getElem?_eq_some_iff.1 c).1
 have d:a.heap[b]?=af (.cells #[.pointer (af ⟨b,0,ag⟩),v] 51 (0,0)):=by rw[o.block b C (λe=>u e.symm)];exact c
 have d0:a.cell? ⟨b,0,ag⟩=af (.pointer (af ⟨b,0,ag⟩)):=by rw[ah d];rfl
 have F:a.cell? ⟨b,1,ag⟩=af v:=by rw[ah d];rfl
 have G:a.frozen? ⟨b,1,ag⟩=aO:=aC d 1;obtain⟨H,cap,rfl⟩:=n.slice;go_wp2;go_ret2;refine⟨rfl,.inr ?_,?_,?_⟩
 ·exact Lib.BuilderAt.put (T:=51) (e:=5) m d (bs':=aA (l++s.data.toList)) (by rw[aN,show l.length+s.size=(l++s.data.toList).length from by simp];exact n) iG
 ·exact(j.trans z).setCell (p:=⟨b,1,ag⟩) m _
 ·exact A.1.setCell ⟨b,1,ag⟩ rfl _
theorem qR (B b:Nat)(l:List UInt8)(c:UInt8)(w:aI)(h:aT 51 5 B b (aA l) w)(t:l.length+1<=140737488355328)(Z:B<=w.heap.size):
  bu ay 92 #[.pointer (af ⟨b,0,ag⟩),.int .u8 c.toNat] w λe w'=>e=.returned .nilIface/\(aT 51 5 B b (aA (l++[c])) w'/\aJ B w w'/\aZ 5 (af b) w w'):=by
 obtain⟨L,x,y,z,A⟩:=info_parts xQ;have i:=ae (And.intro x (And.intro y (And.intro z A)));have M:=ae (KZ B b _ _ h);clear x y z A h
 as_aux_lemma=>
 go_enter Tryz.func92,Tryz.ntmps92
 as_aux_lemma=>
 go_upto_region 2 with(go_at_call 32;refine(M.1).mono ?_;rintro e a ⟨rfl,C,D,E⟩;have N:=ae C;have o:=ae D;have O:=ae E;clear C D E)
 obtain⟨F,v,j,q,G⟩:=N.1;rw[aN]at q;have aa:a.cell? ⟨b,0,ag⟩=af (.pointer (af ⟨b,0,ag⟩)):=by rw[ah j];rfl
 have ab:a.cell? ⟨b,1,ag⟩=af v:=by rw[ah j];rfl
 have r:=ae (World.ownsRow.alloc q (.cells #[.int .u8 c.toNat] 5));have H:=ae F;have I:=ae j;have P:=ae G;have J:PLift (B<=(a.alloc (.cells #[.int .u8 c.toNat] 5)).heap.size):=⟨by rw[jl];have:=o.1.size;omega⟩;have Q:PLift ((a.alloc (.cells #[.int .u8 c.toNat] 5)).cell? ⟨a.heap.size,0,ag⟩=af (.int .u8 c.toNat)):=⟨(ah (aQ a _) 0).trans rfl⟩;have K:=ae t;clear q F j G t
 as_aux_lemma=>
 go_wp2_with(refine wG _ rfl _ _ 49 rfl B 5 L (.int .u8 0) 1 1 bC i.1.1 i.1.2.1 i.1.2.2.1 i.1.2.2.2 rfl iG v l.length (aA l) rfl r.1 ⟨a.heap.size,0,ag⟩ 1 1 [.int .u8 c.toNat] rfl rfl (by intro j2 u d;match j2,d with|0,d=>simp only[List.getElem?_cons_zero,Option.some.injEq]at d;subst d;exact Q.1|j2+1,d=>simp at d) (by simp[Value.oneCell']) iG (by have:=K.1;unfold maxLen;omega) (by have:=K.1;omega) J.1 ?_)
 intro v' f s m R;have S:b<a.heap.size:=block_lt I.1
 have n:f.heap[b]?=af (.cells #[.pointer (af ⟨b,0,ag⟩),v] 51 (0,0)):=by rw[m.block b (by rw[jl];omega) (λe=>P.1 e.symm),Lib.alloc_old _ _ _ S];exact I.1
 have ac:f.cell? ⟨b,1,ag⟩=af v:=by rw[ah n];rfl
 have ad:f.frozen? ⟨b,1,ag⟩=aO:=aC n 1;have U:PLift (aJ B a f):=⟨((Below.refl B a).alloc (by have:=o.1.size;omega) _).grown m J.1 (λk V=>(r.1.lt k V).1)⟩;have W:=ae (Lib.BuilderAt.put (T:=51) (e:=5) H.1 n (bs':=aA (l++[c])) (v':=v') (by rw[aN,Lib.byteCells_append,show(l++[c]).length=l.length+1 from by simp];exact s) iG);have X:PLift (aZ 5 (af b) w f):=⟨(O.1.alloc _).grown m λg hv=>KY r.1 g hv⟩;obtain⟨ai,ak,Y⟩:=mW s;subst Y;clear s m R n
 as_aux_lemma=>
 go_wp2;refine aK (v:=.nilIface) (by simp only[results,Tryz.results92];go_simp) rfl ?_;exact⟨rfl,.inr W.1,(o.1.trans U.1).setCell (p:=⟨b,1,ag⟩) H.1 _,X.1.setCell ⟨b,1,ag⟩ rfl _⟩
end Go.Proofs.YthcalnnipjflkaaGreatDoor
