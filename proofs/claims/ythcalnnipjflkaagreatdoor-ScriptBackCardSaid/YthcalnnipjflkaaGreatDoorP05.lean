import Derived.Test.YthcalnnipjflkaaGreatDoorP03
import Derived.Deep.OwnRows
import Derived.RegionTactic
import Derived.ChangeAlike
import Derived.BigRegion
import Derived.Laws.CopyOwn
import Derived.Deep.Cut
open Option renaming none -> ae, some -> ah, getD_some -> bQ
open Go.Lib renaming cell_of_heap -> af, frozen_of_heap -> az, hid -> aA, alloc_old -> aT
open List renaming replicate -> ag, getElem?_eq_getElem -> au, take_succ_eq_append_getElem -> ax, getD_eq_getElem?_getD -> aH, getElem_mem -> aQ, length_drop -> aZ, take_length -> bn, getElem?_eq_some_iff -> bC, length_take -> bG, length_set -> bI, take_of_length_le -> bK, foldl_append -> bP, dropWhile_cons -> bT, length_append -> bV, mem_singleton -> bW, length_replicate -> cu, mem_append -> di, reverse_append -> dm, append_assoc -> dA, drop_eq_getElem_cons -> dC, length_map -> dJ, reverse_singleton -> dK, drop_of_length_le -> dL, length_singleton -> dM, set_append_right -> dN, singleton_append -> dP, map_set -> dQ, getElem?_take -> dR, getElem_drop -> dU, length_cons -> dV, all_eq_true -> dW, nil_append -> dX, foldl_cons -> dY, all_append -> dZ, map_append -> ed, take_zero -> eu
open Bool renaming false -> aj, true -> aU, and_eq_true -> dD, and_eq_false_iff -> dO
open Array renaming getElem?_eq_some_iff -> ay, getElem?_modify -> aN, replicate -> aW
open Nat renaming le_refl -> aB, zero_le -> aK, not_lt_zero -> bU, le_of_lt -> bY, sub_self -> dE, le_trans -> eH
open Go renaming World -> aC, heap_alloc_new -> aJ, bodyPost_ret -> aO, Value -> bD, results_cell_row -> dF, Calls -> dH, Oper -> eP
open PLift renaming up -> aI
open Go.Proofs.Tryz renaming results153 -> aP, prog -> aV, underlying49 -> aY, ntmps153 -> bz, func153 -> bF, underlying219 -> dn, ntmps176 -> dw, func176 -> dG, ntmps131 -> eF, ntmps211 -> eG, func131 -> eQ, func211 -> eU
open Go.RowKit renaming Below -> aS
open Option.some renaming injEq -> aX
open Go.World renaming setCell -> bu
open Prod.mk renaming injEq -> bH
open Go.RowKit.Below renaming refl -> bJ
open Int renaming eq_ofNat_of_zero_le -> bZ, toNat_natCast -> dB
open UInt8 renaming toNat_sub_of_le -> cZ, le_iff_toNat_le -> dh, toNat_inj -> dI
set_option linter.all false
set_option maxHeartbeats 4000000
set_option maxRecDepth 100000
namespace Go.Proofs.YthcalnnipjflkaaGreatDoor
structure ku (L T:Nat)(i:Nat)(n:Nd):Prop where
 JE:0<=n.kind
 kind:n.kind<=11
 text:n.text.size<=T
 refs:∀x∈n.keys++n.items,(i:Int)<x/\x<(L:Int)
 leaf:n.kind<9->n.items=[]
 tag:n.kind=11->n.items.length=1
 map:n.kind=10->n.keys.length=n.items.length
 keysL:n.keys.length<=L
 JF:n.items.length<=L
theorem ku.mono {L a T i:Nat}{n:Nd}(h:ku L T i n)(b:L<=a):ku a T i n:=
 ⟨h.JE,h.kind,h.text,λx hx=>⟨(h.refs x hx).1,by have:=(h.refs x hx).2;omega⟩,h.leaf,h.tag,h.map,eH h.keysL b,eH h.JF b⟩
def jO (T:Nat)(N:List Nd):Prop:=∀i n,N[i]?=ah n->ku N.length T i n
theorem jO.nil (T:Nat):jO T []:=λi n h=>by simp at h
theorem jO.snoc {T:Nat}{N:List Nd}{nd:Nd}(h:jO T N)(hn:ku (N.length+1) T N.length nd):jO T (N++[nd]):=by
 intro i n hi;rw[bV,dM];by_cases a:i<N.length
 ·rw[List.getElem?_append_left a]at hi
  exact(h i n hi).mono iE
 ·by_cases he:i=N.length
  ·subst he
   simp at hi;rw[<-hi];exact hn
  ·rw[List.getElem?_eq_none iI]at hi
   cases hi
theorem jO.set {T a:Nat}{N:List Nd}{nd:Nd}(h:jO T N)(hn:ku N.length T a nd):jO T (N.set a nd):=by
 intro i n hi;rw[bI];rw[List.getElem?_set]at hi;split at hi
 ·rename_i e
  subst e;split at hi
  ·obtain rfl:=Option.some.inj hi
   exact hn
  ·cases hi
 ·exact h i n hi
theorem ku.plain {L T i:Nat}{k:Int}{t:ByteArray}{o:Bool}(a:0<=k)(c:k<9)(b:t.size<=T):ku L T i ⟨k,t,o,[],[]⟩:=
 ⟨a,(by show k<=11;omega),b,(λx hx=>by simp at hx),λ_=>rfl,(λh=>by have h:k=11:=h;omega),λ_=>rfl,aK _,aK _⟩
theorem ku.list {L T i:Nat}{o:Bool}{a is:List Int}(hr:∀x∈a++is,(i:Int)<x/\x<(L:Int))(b:a=[])(hi:is.length<=L):ku L T i ⟨9,⟨#[]⟩,o,a,is⟩:=
 ⟨(by decide:(0:Int)<=9),(by decide:(9:Int)<=11),aK _,hr,λh=>absurd (show(9:Int)<9 from h) iG,λh=>absurd (show(9:Int)=11 from h) iG,λh=>absurd (show(9:Int)=10 from h) iG,(by rw[b];exact aK _),hi⟩
theorem ku.mp {L T i:Nat}{o:Bool}{a is:List Int}(hr:∀x∈a++is,(i:Int)<x/\x<(L:Int))(b:a.length=is.length)(hi:is.length<=L):ku L T i ⟨10,⟨#[]⟩,o,a,is⟩:=
 ⟨(by decide:(0:Int)<=10),(by decide:(10:Int)<=11),aK _,hr,λh=>absurd (show(10:Int)<9 from h) iG,λh=>absurd (show(10:Int)=11 from h) iG,λ_=>b,(by show a.length<=L;omega),hi⟩
theorem ku.tg {L T i:Nat}{t:ByteArray}{x:Int}(a:t.size<=T)(hx:(i:Int)<x/\x<(L:Int))(b:1<=L):ku L T i ⟨11,t,aj,[],[x]⟩:=
 ⟨(by decide:(0:Int)<=11),(by decide:(11:Int)<=11),a,(λy hy=>by simp only[dX,bW]at hy;subst hy;exact hx),λh=>absurd (show(11:Int)<9 from h) iG,λ_=>rfl,λh=>absurd (show(11:Int)=10 from h) iG,aK _,b⟩
theorem ku.zero {L T i:Nat}:ku L T i jG:=ku.plain iG iG (aK _)
theorem UE:∀(n:Nat) (l:List UInt8),l.length=n->∀t m,oC l=ah (t,m)->m<=l.length/\t.length<=l.length:=by
 intro n
 induction n using Nat.strongRecOn with
 |_ n f=>
  intro l g t m h;cases l with
  |nil=>cases h
  |cons c r=>
   rw[oC.eq_def]at h;simp only at h;split at h
   ·simp only[aX,bH]at h
    obtain⟨rfl,rfl⟩:=h;simp
   ·split at h
    ·split at h
     ·cases h
     ·rename_i d r2
      split at h
      ·rename_i a b e
       simp only[aX,bH]at h;obtain⟨rfl,rfl⟩:=h;have:=f r2.length (by simp at g;omega) r2 rfl a b e;simp only[dV];omega
      ·cases h
    ·split at h
     ·rename_i a b e
      simp only[aX,bH]at h;obtain⟨rfl,rfl⟩:=h;have:=f r.length (by simp at g;omega) r rfl a b e;simp only[dV];omega
     ·cases h
theorem JG (l:List UInt8):(jq l).length<=l.length:=by unfold jq;exact(List.takeWhile_sublist _).length_le
theorem UF {w t:List UInt8}(h:uG w=ah t):t.length<=w.length:=by
 unfold uG at h;split at h
 ·cases h
 split at h
 ·cases h
 obtain rfl:=Option.some.inj h
 have hs:∀(l:List Nat) (R:List UInt8),(l.foldl (xE w) R).length=R.length:=by
  intro l
  induction l with
  |nil=>intro R;rfl
  |cons x l a=>intro R;rw[dY,a];unfold xE;rw[bI]
 unfold mV;rw[hs,cu];omega
theorem UG {L T i:Nat}{w:List UInt8}(h:w.length<=T):ku L T i (sZ w):=by
 unfold sZ;have hw:(⟨w.toArray⟩:ByteArray).size<=T:=by show w.toArray.size<=T;simpa using h
 split
 ·exact ku.zero
 split
 ·exact ku.plain iG iG hw
 split
 ·exact ku.plain iG iG hw
 split
 ·exact ku.plain iG iG hw
 ·exact ku.plain iG iG hw
structure xG (s:List UInt8)(p:Nat)(N:List Nd)(p':Nat)(N':List Nd):Prop where
 pos:p<=p'
 fin:p'<=s.length
 len:N.length<N'.length
 top:N'.length<=4096
 tree:jO s.length N'
structure oD (s:List UInt8)(a:Nat)(isMap:Bool)(p:Nat)(N:List Nd)(ks is:List Int):Prop where
 fin:p<=s.length
 tree:jO s.length N
 at_:a<N.length
 top:N.length<=4096
 refs:∀x∈ks++is,(a:Int)<x/\x<(N.length:Int)
 ks:ks.length=if isMap=aU then is.length else 0
 is:is.length+a<N.length
theorem CP {s:List UInt8}{p q:Nat}{c:UInt8}(h:kG s p c=ah q):q=p+1/\p<s.length:=by
 unfold kG at h;split at h
 ·rename_i e
  obtain rfl:=Option.some.inj h;exact⟨rfl,(bC.1 e).1⟩
 ·cases h
theorem JH {a L b:Nat}{c is:List Int}{x:Int}(h:∀y∈c++is,(a:Int)<y/\y<(L:Int))(hx:(a:Int)<x/\x<(b:Int))(d:L<=b):∀y∈c++(is++[x]),(a:Int)<y/\y<(b:Int):=by
 intro y hy;rw[<-dA,di,bW]at hy;rcases hy with hy|rfl
 ·have:=h y hy;omega
 ·exact hx
theorem yP {v:Nat->List Nd->Option (Nat×List Nd)}{s:List UInt8}(hv:∀p N c N',v p N=ah (c,N')->p<=s.length->jO s.length N->xG s p N c N')(u:UInt8)(k:Bool)(a:Nat):
  ∀f p N d is c N' g i,kK v s u k f p N d is=ah (c,N',g,i)->oD s a k p N d is->oD s a k c N' g i/\p<=c/\N.length<=N'.length:=by
 intro f
 induction f with
 |zero=>intro p N d is c N' g i h;cases h
 |succ f o=>
  intro p N d is c N' g i h b;unfold kK at h;split at h
  ·rename_i e
   simp only[aX,bH]at h;obtain⟨rfl,rfl,rfl,rfl⟩:=h;have:=(bC.1 e).1;exact⟨⟨iE,b.tree,b.at_,b.top,b.refs,b.ks,b.is⟩,iE,aB _⟩
  ·split at h
   ·cases h
   ·rename_i q e1
    have r:p<=q/\q<=s.length:=by
     split at e1
     ·obtain rfl:=Option.some.inj e1;exact⟨aB _,b.fin⟩
     ·have:=CP e1;omega
    cases k with
    |false=>
     simp only at h;split at h
     ·cases h
     ·rename_i t m n
      have hs:=hv _ _ _ _ n r.2 b.tree;have l:d=[]:=(by have:=b.ks;simpa using this);have w:=hs.len;have x:=b.at_;have z:=b.is
      obtain⟨r1,r2,A⟩:=o t m d (is++[(N.length:Int)]) c N' g i h
       ⟨hs.fin,hs.tree,iE,hs.top,JH b.refs ⟨iE,iE⟩ iE,by simp[l],iI⟩
      exact⟨r1,by have:=hs.pos;omega,iE⟩
    |true=>
     simp only at h;split at h
     ·cases h
     ·rename_i t m n
      have hs:=hv _ _ _ _ n r.2 b.tree;split at h
      ·cases h
      ·rename_i E e3
       obtain⟨rfl,F⟩:=CP e3;split at h
       ·cases h
       ·rename_i B C D
        have j:=hv _ _ _ _ D iE hs.tree;have l:=b.ks;simp only[if_true]at l;have w:=hs.len;have G:=j.len;have x:=b.at_;have z:=b.is
        obtain⟨r1,r2,A⟩:=o B C (d++[(N.length:Int)]) (is++[(m.length:Int)]) c N' g i h
         ⟨j.fin,j.tree,iE,j.top,(by
          intro y hy;rw[di,di,di,bW,bW]at hy;rcases hy with(hy|rfl)|(hy|rfl)
          ·have:=b.refs y (List.mem_append_left _ hy);omega
          ·omega
          ·have:=b.refs y (List.mem_append_right _ hy);omega
          ·omega),by simp[l],iI⟩
        exact⟨r1,by have:=hs.pos;have:=j.pos;omega,iE⟩
theorem tq {s:List UInt8}{N:List Nd}(h:jO s.length N):jO s.length (N++[jG]):=h.snoc ku.zero
theorem uH (s:List UInt8):∀k p N f N',jd s k p N=ah (f,N')->p<=s.length->jO s.length N->xG s p N f N':=by
 intro k
 induction k with
 |zero=>intro p N f N' h;cases h
 |succ k v=>
  intro p N f N' h hp y;unfold jd at h;split at h
  ·cases h
  rename_i I
  have r:∀(q:Nat) (nd:Nd),p<=q->q<=s.length->ku (N.length+1) s.length N.length nd->ah (q,N++[nd])=ah (f,N')->xG s p N f N':=by intro q nd d z A he;simp only[aX,bH]at he;obtain⟨rfl,rfl⟩:=he;exact⟨d,z,iH,iI,y.snoc A⟩
  have g:∀c:UInt8,s[p]?=ah c->p+1<=s.length:=λc hc=>(bC.1 hc).1
  have w:∀q,q<=s.length->q+(jq (s.drop q)).length<=s.length:=λq J=>by have:=JG (s.drop q);rw[aZ]at this;omega
  have B:∀q,(jq (s.drop q)).length<=s.length:=λq=>by have:=JG (s.drop q);rw[aZ]at this;omega
  have C:∀q,(⟨(jq (s.drop q)).toArray⟩:ByteArray).size<=s.length:=λq=>by show(jq (s.drop q)).toArray.size<=_;simpa using B q
  have D:∀b:Bool,p+1<=s.length->oD s N.length b (p+1) (N++[jG]) [] []:=λb a=>⟨a,tq y,iH,iI,λx hx=>by simp at hx,iH,iH⟩
  have E:∀(b o:Bool) (kd:Int) (i:Nat) (j:List Nd) (m is:List Int),(kd=9/\b=aj\/kd=10/\b=aU)->(oD s N.length b i j m is/\p+1<=i/\(N++[jG]).length<=j.length)->ah (i,j.set N.length ⟨kd,⟨#[]⟩,o,m,is⟩)=ah (f,N')->xG s p N f N':=by
   intro b o kd i j m is G ⟨d,z,A⟩ he;simp only[aX,bH]at he;obtain⟨rfl,rfl⟩:=he;have K:=d.is;have F:=d.ks;refine⟨iE,d.fin,by rw[bI];exact d.at_,by rw[bI];exact d.top,d.tree.set ?_⟩;rcases G with⟨rfl,rfl⟩|⟨rfl,rfl⟩
   ·exact ku.list d.refs (by simpa using F) iE
   ·exact ku.mp d.refs (by simpa using F) iE
  split at h
  ·rename_i hc
   have a:=g _ hc;split at h
   ·rename_i t n e
    have:=UE _ (s.drop (p+1)) rfl t n e;rw[aZ]at this;exact r _ _ iE iE (ku.plain iG iG (by show t.toArray.size<=_;simp;omega)) h
   ·cases h
  ·rename_i hc
   have a:=g _ hc;split at h
   ·rename_i t e
    have d:=UF e;have z:=B (p+1);exact r _ _ iE (w _ a) (ku.plain iG iG (by show t.toArray.size<=_;simp;omega)) h
   ·cases h
  ·rename_i hc
   have a:=g _ hc;exact r _ _ iE (w _ a) (ku.plain iG iG (C _)) h
  ·rename_i hc
   have a:=g _ hc;exact r _ _ iE (w _ a) (ku.plain iG iG (C _)) h
  ·rename_i hc
   have a:=g _ hc;split at h
   ·cases h
   rename_i L e1;obtain⟨rfl,d⟩:=CP e1;split at h
   ·cases h
   rename_i i j l;have hs:=v _ _ _ _ l iE (tq y);split at h
   ·cases h
   rename_i M e3;obtain⟨rfl,A⟩:=CP e3;simp only[aX,bH]at h;obtain⟨rfl,rfl⟩:=h;have H:=hs.len;rw[bV,dM]at H;refine⟨by have:=hs.pos;omega,iE,by rw[bI];omega,by rw[bI];exact hs.top,hs.tree.set (ku.tg (C _) ⟨iE,iE⟩ iE)⟩
  ·rename_i hc
   have a:=g _ hc;split at h
   ·cases h
   rename_i i j m is l;have u:=yP v 93 aj N.length _ _ _ _ _ _ _ _ _ l (D aj a);exact E aj aj 9 _ _ _ _ (.inl ⟨rfl,rfl⟩) u h
  ·rename_i hc
   have a:=g _ hc;split at h
   ·cases h
   rename_i i j m is l;have u:=yP v 125 aU N.length _ _ _ _ _ _ _ _ _ l (D aU a);exact E aU aj 10 _ _ _ _ (.inr ⟨rfl,rfl⟩) u h
  ·rename_i hc
   have a:=g _ hc;split at h
   ·cases h
   rename_i i j m is l;have u:=yP v 62 aU N.length _ _ _ _ _ _ _ _ _ l (D aU a);exact E aU aU 10 _ _ _ _ (.inr ⟨rfl,rfl⟩) u h
  ·exact r _ _ iE (w _ hp) (UG (B _)) h
theorem UH {s:List UInt8}{N:List Nd}(h:wF s=ah N):jO s.length N/\N.length<=4096/\0<N.length:=by
 unfold wF at h;split at h
 ·rename_i p a e
  split at h
  ·obtain rfl:=Option.some.inj h
   have:=uH s 33 0 [] p a e (aK _) (jO.nil _);exact⟨this.tree,this.top,by have:=this.len;simp at this;omega⟩
  ·cases h
 ·cases h
theorem jO.range {T:Nat}{N:List Nd}(h:jO T N){n:Nd}(hn:n∈N):∃i,ku N.length T i n:=by obtain⟨i,hi,rfl⟩:=List.getElem_of_mem hn;exact⟨i,h i _ (au hi)⟩
end Go.Proofs.YthcalnnipjflkaaGreatDoor
namespace Go.Proofs.YthcalnnipjflkaaGreatDoor
open Go.RowKit
open Go.Lib hiding intOf
def incr (C:List Int)(x:Int):List Int:=C.set x.toNat (wrap64 (C.getD x.toNat 0+1))
def rq (C:List Int)(n:Nd):List Int:=n.items.foldl incr (n.keys.foldl incr C)
def cntF (N:List Nd)(root:Int):List Int:=N.foldl rq (incr (ag N.length 0) root)
theorem D7 (C:List Int)(x:Int):(incr C x).length=C.length:=by simp[incr]
theorem A8 (l:List Int):∀C:List Int,(l.foldl incr C).length=C.length:=by
 induction l with
 |nil=>intro C;rfl
 |cons x l a=>intro C;simp only[dY];rw[a,D7]
structure CW (w:aC)(N:List Nd)(bx:Array bD)(C:List Int)(wr:aC):Prop where
 below:aS w.heap.size w wr
 box:wr.heap[w.heap.size]?=ah (.cells bx 117)
 row:wr.heap[w.heap.size+1]?=ah (.cells (C.map (Value.int .i64)).toArray 3)
 len:C.length=N.length
theorem CW.alloc {w:aC}{N:List Nd}{a:Array bD}{C:List Int}{wr:aC}(h:CW w N a C wr)(o:Obj):CW w N a C (wr.alloc o):=
 ⟨h.below.alloc h.below.size o,by rw[aT _ _ _ (ay.1 h.box).1];exact h.box,by rw[aT _ _ _ (ay.1 h.row).1];exact h.row,h.len⟩
theorem CW.set {w:aC}{N:List Nd}{a:Array bD}{C:List Int}{wr:aC}(h:CW w N a C wr)(k:Nat)(x:Int):CW w N a (C.set k x) (wr.setCell ⟨w.heap.size+1,k,ae⟩ (.int .i64 x)):=by
 refine⟨h.below.setCell (p:=⟨w.heap.size+1,k,ae⟩) (by show w.heap.size<=w.heap.size+1;omega) _,?_,?_,by simp[h.len]⟩
 ·simp[bu,aN,h.box]
 ·simp[bu,aN,h.row,dQ]
theorem jm {w:aC}{b k c:Nat}(v:bD)(h:c≠b):(w.setCell ⟨b,k,ae⟩ v).heap[c]?=w.heap[c]?:=by simp[bu,aN,Ne.symm h]
theorem OM (w:aC)(N:List Nd)(a:Array bD):CW w N a (ag N.length 0) ((w.alloc (.cells a 117)).alloc (.cells (aW N.length (.int .i64 0)) 3)):=by
 have b:(w.alloc (.cells a 117)).heap.size=w.heap.size+1:=iH
 refine⟨((bJ _ w).alloc (aB _) _).alloc iH _,?_,?_,iH⟩
 ·rw[aT _ _ _ iH];exact aJ w _
 ·rw[<-b,aJ];simp
theorem su:(Tryz.prog.info? 3).map (λi=>(i.zero,i.size,i.bytes))=ah (ah (.int .i64 0),1,8):=iF
theorem D8:(Tryz.prog.info? 4).map (λi=>(i.zero,i.size,i.bytes))=ah (ah (.bool aj),1,1):=iF
theorem sD (z:bD)(n:Nat):madeCells #[z] n=aW n z:=by
 apply Array.ext
 ·simp[madeCells]
 ·intro i a b
  simp[madeCells,Nat.mod_one]
theorem vM {T E bytes:Nat}{z:bD}(b:Tryz.prog.underlying T=ah (.slice E))(d:(Tryz.prog.info? E).map (λi=>(i.zero,i.size,i.bytes))=ah (ah z,1,bytes))(e:z.cells=#[z])(w:aC){ops:Array eP}{rest:List eP}{o:eP}{a:Act}{Q:Exit->Act->aC->Prop}
  (f:o.guard=ae)(l c:Operand)(g:o.op=Op.makeSlice T l c)(n H:Nat)(h:a.eval l=.int .i64 (n:Int))(hc:a.eval c=.int .i64 (n:Int))(j:bytes*n<=281474976710656)(k:n<=9223372036854775807)(m:w.heap.size=H)
  (hK:∀W,Hid (W=w.alloc (.cells (aW n z) E))->wpList aV ops Q rest (a.put o.dst (.slice (ah ⟨H,0,ae⟩) n n)) W):wpList aV ops Q (o::rest) a w:=by
 obtain⟨i,hi,p,hs,q⟩:=info_parts d;subst m;refine wpList_make_row w f l c T g E i z b hi p hs e .i64 .i64 n h hc (by rw[q];exact j) k ?_;rw[sD];exact hK _ rfl
theorem OO (w:aC)(v:bD)(N:List Nd)(root:Nat)(T:jJ w v N)(hR:nN N)(U:root<N.length)(hn:N.length<=4096):
  dH aV 104 #[.agg #[v,.int .i64 root]] w λe w'=>e=.returned (.slice (ah ⟨w.heap.size+1,0,ae⟩) N.length N.length)/\aS w.heap.size w w'/\w'.heap[w.heap.size+1]?=ah (.cells ((cntF N root).map (Value.int .i64)).toArray 3):=by
 have a0:=aA T;have al:=aA hR;obtain⟨va,vc,rfl,a1,V⟩:=T;have am:=aA V;have a2:(root:Int)<(N.length:Int):=iE
 have a3:(0:Int)<=root:=iE
 clear hR V;go_enter Tryz.func104,Tryz.ntmps104
 go_wp2_with(refine vM Tryz.underlying36 su rfl _ rfl _ _ rfl N.length (w.heap.size+1) rfl rfl iE iE (jl _ _) ?_)
 intro W an
 have r:Hid (CW w N #[.slice va N.length vc,.int .i64 root] (ag N.length 0) W):=by show CW w N #[.slice va N.length vc,.int .i64 root] (ag N.length 0) W;rw[an.out];exact OM w N _
 have M:=iK r.out.box 1 (.int .i64 root);have O:=iK r.out.box 0 (.slice va N.length vc);have a4:W.cell? ⟨w.heap.size+1,root,ae⟩=ah (.int .i64 0):=by rw[af r.out.row];simp[U]
 have a5:=az r.out.row root
 have ao:Hid (CW w N #[.slice va N.length vc,.int .i64 root] (incr (ag N.length 0) root) (W.setCell ⟨w.heap.size+1,root,ae⟩ (.int .i64 1))):=by
  have h:=r.out.set root 1
  have e:incr (ag N.length 0) root=(ag N.length 0).set root 1:=by unfold incr;simp only[dB];rw[aH,List.getElem?_replicate,gY U];have ap:wrap64 ((ah (0:Int)).getD 0+1)=1:=(by simp[wrap64]);rw[ap]
  show CW w N #[.slice va N.length vc,.int .i64 root] (incr (ag N.length 0) root) _;rw[e];exact h
 have a6:w.heap.size<W.heap.size:=(ay.1 r.out.box).1;go_wp2
 go_loopw [24] (λG wr=>∃(i:Nat) (C:List Int),G=.int .i64 i/\i<=N.length/\C=(N.take i).foldl rq (incr (ag N.length 0) root)/\CW w N #[.slice va N.length vc,.int .i64 root] C wr) (λG _=>N.length - (intOf G).toNat)
 case atStart=>exact⟨0,_,rfl,aK _,rfl,ao.out⟩
 case round=>
  obtain⟨i,C,rfl,hi,P,a⟩:=hrel;have d:=aA a;have X:=aA P;by_cases u:i<N.length
  ·have a7:(i:Int)<(N.length:Int):=iE
   rcases am.out with z|⟨b,o,rfl,Y⟩
   ·exfalso;rw[z]at u;exact bU _ u
   have Z:=Y i N[i] (au u);have Q:=al.out N[i] (aQ u)
   have aa:Hid ((N.take (i+1)).foldl rq (incr (ag N.length 0) root)=rq C N[i]):=by show _=_;rw[ax u,bP,<-X.out];rfl
   generalize N[i]=n at Z Q aa;have ab:=aA Q;obtain⟨a8,G,O,M,ac,ad,ai,H,I⟩:=Z;obtain⟨J,K,rfl,a9,H⟩:=H;obtain⟨s,t,rfl,ba,I⟩:=I;have aq:=aA H;have ar:=aA I;have d0:=iU a.below O;have bb:=iU a.below M;have bc:=iU a.below ac;have bd:=iU a.below ad;have be:=iU a.below ai;obtain⟨f,av⟩:=iC wr.heap.size
   have ak:Hid (f≠w.heap.size+1):=by have:=(ay.1 a.row).1;show f≠w.heap.size+1;omega
   have aw:Hid ((wr.alloc (.cells #[.int .i64 n.kind,.string n.text,.bool n.ord,.slice J n.keys.length K,.slice s n.items.length t] 150)).heap[f]?=ah (.cells #[.int .i64 n.kind,.string n.text,.bool n.ord,.slice J n.keys.length K,.slice s n.items.length t] 150)):=by show _=_;rw[<-av];exact aJ wr _
   clear Y P a Q H I O M ac ad ai;go_wp2
   go_loopw [31] (λl wr=>∃(j:Nat) (D:List Int),l=.int .i64 j/\j<=n.keys.length/\D=(n.keys.take j).foldl incr C/\CW w N #[.slice (ah ⟨b,o,ae⟩) N.length vc,.int .i64 root] D wr/\wr.heap[f]?=ah (.cells #[.int .i64 n.kind,.string n.text,.bool n.ord,.slice J n.keys.length K,.slice s n.items.length t] 150)) (λl _=>n.keys.length - (intOf l).toNat)
   case atStart=>exact⟨0,_,rfl,aK _,rfl,d.out.alloc _,aw.out⟩
   case round=>
    obtain⟨j,D,rfl,aD,m,a,g⟩:=hrel;have d:=aA a;have A:=aA m;have L:=aA g;by_cases c:j<n.keys.length
    ·have aE:(j:Int)<(n.keys.length:Int):=iE
     have hx:=ab.out.1 n.keys[j] (aQ c);rcases aq.out with z|⟨aF,lo,rfl,p⟩
     ·exfalso;rw[z]at c;exact bU _ c
     have R:=iU a.below (p j n.keys[j] (au c))
     have B:Hid ((n.keys.take (j+1)).foldl incr C=incr D n.keys[j]):=by show _=_;rw[ax c,bP,<-A.out];rfl
     generalize n.keys[j]=x at hx R B;obtain⟨k,rfl⟩:=bZ hx.1;have q:k<D.length:=(by rw[a.len];have:=hx.2;omega);have aG:(k:Int)<(N.length:Int):=hx.2;have S:wr.cell? ⟨w.heap.size+1,k,ae⟩=ah (.int .i64 D[k]):=(by rw[af a.row];simp[q]);have aL:=az a.row k
     have E:Hid (incr D (k:Int)=D.set k (wrap64 (D[k]+1))):=by show _=_;unfold incr;simp only[dB];rw[aH,au q];rfl
     have aM:=aA p;generalize D[k]=y at S E;clear p hx m a g q;go_wp2;go_roundw
     case rel=>
      refine⟨j+1,_,by go_num,iE,B.out.symm,?_,?_⟩
      ·rw[E.out];exact d.out.set k _
      ·rw[jm _ ak.out];exact L.out
     case measure=>simp[intOf];omega
    ·obtain rfl:j=n.keys.length:=iE
     have F:Hid (D=n.keys.foldl incr C):=by show _=_;rw[A.out,bn]
     have aR:=iK g 4 (.slice s n.items.length t);clear m a g;go_wp2
     go_loopw [45] (λl wr=>∃(j:Nat) (D:List Int),l=.int .i64 j/\j<=n.items.length/\D=(n.items.take j).foldl incr (n.keys.foldl incr C)/\CW w N #[.slice (ah ⟨b,o,ae⟩) N.length vc,.int .i64 root] D wr/\wr.heap[f]?=ah (.cells #[.int .i64 n.kind,.string n.text,.bool n.ord,.slice J n.keys.length K,.slice s n.items.length t] 150)) (λl _=>n.items.length - (intOf l).toNat)
     case atStart=>exact⟨0,D,rfl,aK _,F.out,d.out,L.out⟩
     case round=>
      obtain⟨j,D,rfl,aD,m,a,g⟩:=hrel;have d:=aA a;have A:=aA m;have L:=aA g;by_cases c:j<n.items.length
      ·have aE:(j:Int)<(n.items.length:Int):=iE
       have hx:=ab.out.2 n.items[j] (aQ c);rcases ar.out with z|⟨aF,lo,rfl,p⟩
       ·exfalso;rw[z]at c;exact bU _ c
       have R:=iU a.below (p j n.items[j] (au c))
       have B:Hid ((n.items.take (j+1)).foldl incr (n.keys.foldl incr C)=incr D n.items[j]):=by show _=_;rw[ax c,bP,<-A.out];rfl
       generalize n.items[j]=x at hx R B;obtain⟨k,rfl⟩:=bZ hx.1;have q:k<D.length:=(by rw[a.len];have:=hx.2;omega);have aG:(k:Int)<(N.length:Int):=hx.2;have S:wr.cell? ⟨w.heap.size+1,k,ae⟩=ah (.int .i64 D[k]):=(by rw[af a.row];simp[q]);have aL:=az a.row k
       have E:Hid (incr D (k:Int)=D.set k (wrap64 (D[k]+1))):=by show _=_;unfold incr;simp only[dB];rw[aH,au q];rfl
       have aM:=aA p;generalize D[k]=y at S E;clear p hx m a g q;go_wp2;go_roundw
       case rel=>
        refine⟨j+1,_,by go_num,iE,B.out.symm,?_,?_⟩
        ·rw[E.out];exact d.out.set k _
        ·rw[jm _ ak.out];exact L.out
       case measure=>simp[intOf];omega
      ·obtain rfl:j=n.items.length:=iE
       have F:Hid (D=n.items.foldl incr (n.keys.foldl incr C)):=by show _=_;rw[A.out,bn]
       have aR:=iK g 4 (.slice s n.items.length t);clear m a g;go_wp2;go_roundw
       case rel=>exact⟨i+1,_,by go_num,iE,rfl,by rw[aa.out];unfold rq;rw[<-F.out];exact d.out⟩
       case measure=>simp[intOf];omega
  ·obtain rfl:i=N.length:=iE
   have F:Hid (C=cntF N root):=by show _=_;rw[X.out,bn];rfl
   clear P a;go_wp2;go_ret;exact⟨rfl,d.out.below,by rw[<-F.out];exact d.out.row⟩
def rM (N:List Nd)(M:List Bool)(n:Nd):List Bool:=n.keys.foldl (λM x=>jR N (N.length+1) x.toNat M) M
def tu (N:List Nd):List Bool:=N.foldl (rM N) (ag N.length aj)
structure IW (w:aC)(N:List Nd)(bx:Array bD)(M:List Bool)(wr:aC):Prop where
 below:aS w.heap.size w wr
 box:wr.heap[w.heap.size]?=ah (.cells bx 117)
 row:wr.heap[w.heap.size+1]?=ah (.cells (M.map Value.bool).toArray 4)
 len:M.length=N.length
theorem IW.alloc {w:aC}{N:List Nd}{a:Array bD}{M:List Bool}{wr:aC}(h:IW w N a M wr)(o:Obj):IW w N a M (wr.alloc o):=
 ⟨h.below.alloc h.below.size o,by rw[aT _ _ _ (ay.1 h.box).1];exact h.box,by rw[aT _ _ _ (ay.1 h.row).1];exact h.row,h.len⟩
theorem UZ (w:aC)(N:List Nd)(a:Array bD):IW w N a (ag N.length aj) ((w.alloc (.cells a 117)).alloc (.cells (aW N.length (.bool aj)) 4)):=by
 have b:(w.alloc (.cells a 117)).heap.size=w.heap.size+1:=iH
 refine⟨((bJ _ w).alloc (aB _) _).alloc iH _,?_,?_,iH⟩
 ·rw[aT _ _ _ iH];exact aJ w _
 ·rw[<-b,aJ];simp
theorem IW.step {w:aC}{N:List Nd}{a:Array bD}{M M':List Bool}{wr w':aC}(h:IW w N a M wr)(b:wr.grownBy w' (ah (w.heap.size+1)))(hm:w'.heap[w.heap.size+1]?=ah (.cells (M'.map Value.bool).toArray 4))(c:M'.length=M.length):IW w N a M' w':=
 ⟨h.below.grown b h.below.size (λk d=>by have e:=Option.some.inj d;omega),by rw[b.block _ (ay.1 h.box).1 iH];exact h.box,hm,c.trans h.len⟩
theorem U0 (w:aC)(v:bD)(N:List Nd)(root:Int)(z:jJ w v N)(hR:nN N)(hn:N.length<=4096):
  dH aV 105 #[.agg #[v,.int .i64 root]] w λe w'=>e=.returned (.slice (ah ⟨w.heap.size+1,0,ae⟩) N.length N.length)/\aS w.heap.size w w'/\w'.heap[w.heap.size+1]?=ah (.cells ((tu N).map Value.bool).toArray 4):=by
 have U:=aA z;have A:=aA hR;obtain⟨va,vc,rfl,ad,B⟩:=z;have V:=aA B;clear hR B;go_enter Tryz.func105,Tryz.ntmps105
 go_wp2_with(refine vM Tryz.underlying168 D8 rfl _ rfl _ _ rfl N.length (w.heap.size+1) rfl rfl iE iE (jl _ _) ?_)
 intro W X
 have E:Hid (IW w N #[.slice va N.length vc,.int .i64 root] (ag N.length aj) W):=by show IW w N #[.slice va N.length vc,.int .i64 root] (ag N.length aj) W;rw[X.out];exact UZ w N _
 have l:=iK E.out.box 0 (.slice va N.length vc);go_wp2
 go_loopw [15] (λg wr=>∃(i:Nat) (M:List Bool),g=.int .i64 i/\i<=N.length/\M=(N.take i).foldl (rM N) (ag N.length aj)/\IW w N #[.slice va N.length vc,.int .i64 root] M wr) (λg _=>N.length - (intOf g).toNat)
 case atStart=>exact⟨0,_,rfl,aK _,rfl,E.out⟩
 case round=>
  obtain⟨i,C,rfl,hi,m,a⟩:=hrel;have c:=aA a;have F:=aA m;by_cases d:i<N.length
  ·have ai:(i:Int)<(N.length:Int):=iE
   rcases V.out with p|⟨b,o,rfl,G⟩
   ·exfalso;rw[p]at d;exact bU _ d
   have H:=G i N[i] (au d);have q:=A.out N[i] (aQ d)
   have I:Hid ((N.take (i+1)).foldl (rM N) (ag N.length aj)=rM N C N[i]):=by show _=_;rw[ax d,bP,<-F.out];rfl
   generalize N[i]=n at H q I;have Y:=aA q;obtain⟨ak,g,l,J,K,L,O,h,r⟩:=H;obtain⟨al,am,rfl,an,h⟩:=h;obtain⟨ao,ap,rfl,aq,r⟩:=r;have Z:=aA h;have d0:=iU a.below l;have ar:=iU a.below J;have av:=iU a.below K;have aw:=iU a.below L;have aD:=iU a.below O;clear G m a q h r l J K L O;go_wp2
   go_loopw [22] (λs wr=>∃(j:Nat) (D:List Bool),s=.int .i64 j/\j<=n.keys.length/\D=(n.keys.take j).foldl (λM x=>jR N (N.length+1) x.toNat M) C/\IW w N #[.slice (ah ⟨b,o,ae⟩) N.length vc,.int .i64 root] D wr) (λs _=>n.keys.length - (intOf s).toNat)
   case atStart=>exact⟨0,_,rfl,aK _,rfl,c.out.alloc _⟩
   case round=>
    obtain⟨j,D,rfl,aE,t,a⟩:=hrel;have c:=aA a;have P:=aA t;have aF:=iK a.box 0 (.slice (ah ⟨b,o,ae⟩) N.length vc);have b1:=iK a.box 1 (.int .i64 root);by_cases f:j<n.keys.length
    ·have aG:(j:Int)<(n.keys.length:Int):=iE
     have hx:=Y.out.1 n.keys[j] (aQ f);rcases Z.out with p|⟨aL,lo,rfl,u⟩
     ·exfalso;rw[p]at f;exact bU _ f
     have aa:=iU a.below (u j n.keys[j] (au f))
     have Q:Hid ((n.keys.take (j+1)).foldl (λM x=>jR N (N.length+1) x.toNat M) C=jR N (N.length+1) n.keys[j].toNat D):=by show _=_;rw[ax f,bP,<-P.out];rfl
     generalize n.keys[j]=x at hx aa Q;obtain⟨k,rfl⟩:=bZ hx.1;have ab:k<N.length:=(by have:=hx.2;omega);have aM:=aA u;have ac:Hid (w.heap.size<=w.heap.size+1):=Nat.le_succ _;clear u hx t a
     go_wp2_with(go_at_call 102;refine(GY w wr _ N root k (w.heap.size+1) D U.out A.out c.out.below ac.out c.out.len c.out.row ab).mono ?_;rintro e w3 ⟨rfl,R,S⟩;have T:=aA (iJ R S);clear R S)
     go_roundw
     case rel=>exact⟨j+1,_,by go_num,iE,Q.out.symm,c.out.step T.out.1 T.out.2 (vK N _ _ _).1⟩
     case measure=>simp[intOf];omega
    ·obtain rfl:j=n.keys.length:=iE
     have y:Hid (D=rM N C n):=by show _=_;rw[P.out,bn];rfl
     clear t a;go_wp2;go_roundw
     case rel=>exact⟨i+1,_,by go_num,iE,rfl,by rw[I.out,<-y.out];exact c.out⟩
     case measure=>simp[intOf];omega
  ·obtain rfl:i=N.length:=iE
   have y:Hid (C=tu N):=by show _=_;rw[F.out,bn];rfl
   clear m a;go_wp2;go_ret;exact⟨rfl,c.out.below,by rw[<-y.out];exact c.out.row⟩
def jZ (c:UInt8):Bool:=decide (48<=c.toNat)&&decide (c.toNat<=57)
def kU (T:List UInt8):List UInt8:=T.reverse.map (· - 48)
def trimmed (L:List UInt8):List UInt8:=L.take (trimLen L L.length)
def sF (n:List UInt8):Bool:=decide (1<n.length)&&(n.getD 0 0==45)
def qH (n:List UInt8):List UInt8:=if sF n then n.drop 1 else n
def kP (n:List UInt8):Option (Bool×List UInt8):=
 if(qH n).length=0\/400<(qH n).length\/((qH n).getD 0 0=48/\1<n.length)then ae
 else if(qH n).all jZ then ah (sF n,trimmed (kU (qH n)))else ae
def pz (B:Nat)(l:List UInt8)(e:Ending)(w':aC):Prop:=
 match kP l with
 |none=>e=.returned (.tuple #[.agg #[.bool aj,.slice ae 0 0],.bool aj])
 |some (neg,ds)=>∃g c,e=.returned (.tuple #[.agg #[.bool neg,.slice (ah ⟨g,0,ae⟩) ds.length c],.bool aU])/\B<=g/\ds.length<=c/\c<=400/\∀j x,ds[j]?=ah x->w'.cell? ⟨g,j,ae⟩=ah (.int .u8 ((x.toNat:Int)))
def ru (T:List UInt8)(j:Nat):List UInt8:=ag (T.length - j) 0++kU (T.take j)
theorem GZ {T:List UInt8}{j q:Nat}(h:j<T.length)(b:q+j+1=T.length):(ru T j).set q (T[j] - 48)=ru T (j+1):=by
 unfold ru
 have e:kU (T.take (j+1))=(T[j] - 48)::kU (T.take j):=by rw[ax h];unfold kU;rw[dm];rfl
 have a:(ag q (0:UInt8)++[0]).set q (T[j] - 48)=ag q 0++[T[j] - 48]:=by rw[dN _ _ iH];simp
 rw[show T.length - j=q+1 by omega,show T.length - (j+1)=q by omega,List.set_append_left _ _ iH,List.replicate_succ',a,e,dA]
 rfl
theorem G5 (T:List UInt8):ru T T.length=kU T:=by simp[ru]
theorem G6 (T:List UInt8):ru T 0=ag T.length 0:=by simp[ru,kU]
structure RW (w:aC)(neg:Bool)(m:Nat)(L:List UInt8)(wr:aC):Prop where
 below:aS w.heap.size w wr
 res:wr.heap[w.heap.size]?=ah (.cells #[.bool aj,.slice ae 0 0] 215)
 num:wr.heap[w.heap.size+1]?=ah (.cells #[.bool neg,.slice (ah ⟨w.heap.size+1+1,0,ae⟩) m m] 215)
 row:wr.heap[w.heap.size+1+1]?=ah (.cells (byteCells L).toArray 5)
 len:L.length=m
theorem RW.set {w:aC}{neg:Bool}{m:Nat}{L:List UInt8}{wr:aC}(h:RW w neg m L wr)(k:Nat)(x:UInt8):RW w neg m (L.set k x) (wr.setCell ⟨w.heap.size+1+1,k,ae⟩ (.int .u8 x.toNat)):=by
 refine⟨h.below.setCell (p:=⟨w.heap.size+1+1,k,ae⟩) (by show w.heap.size<=w.heap.size+1+1;omega) _,?_,?_,?_,by simp[h.len]⟩
 ·rw[jm _ iE];exact h.res
 ·rw[jm _ iE];exact h.num
 ·simp[bu,aN,h.row,byteCells,dQ]
theorem RW.cell {w:aC}{neg:Bool}{m:Nat}{L:List UInt8}{wr:aC}(h:RW w neg m L wr){k:Nat}(a:k<m):wr.cell? ⟨w.heap.size+1+1,k,ae⟩=ah (.int .u8 ((L.getD k 0).toNat:Int)):=by
 refine(af h.row k).trans ?_;have b:k<L.length:=by rw[h.len];exact a
 simp[byteCells,aH,au b]
theorem RW.drew {w:aC}{neg:Bool}{m:Nat}{L:List UInt8}{wr:aC}(h:RW w neg m L wr):RW w neg m L wr.drew:=⟨h.below.drew,h.res,h.num,h.row,h.len⟩
theorem G7 (w W:aC)(neg:Bool)(m:Nat)(h:W=((w.alloc (.cells #[.bool aj,.slice ae 0 0] 215)).alloc (.cells #[.bool neg,.slice ae 0 0] 215)).alloc (.cells (aW m (.int .u8 0)) 5)):
  W.frozen? ⟨w.heap.size+1,1,ae⟩=aj/\W.cell? ⟨w.heap.size+1,1,ae⟩=ah (.slice ae 0 0):=by
 have b:(w.alloc (.cells #[.bool aj,.slice ae 0 0] 215)).heap.size=w.heap.size+1:=iH
 have a:W.heap[w.heap.size+1]?=ah (.cells #[.bool neg,.slice ae 0 0] 215):=by rw[h,aT _ _ _ iH,<-b];exact aJ _ _
 exact⟨az a 1,(af a 1).trans rfl⟩
theorem G8 (w W:aC)(neg:Bool)(m:Nat)(h:W=((w.alloc (.cells #[.bool aj,.slice ae 0 0] 215)).alloc (.cells #[.bool neg,.slice ae 0 0] 215)).alloc (.cells (aW m (.int .u8 0)) 5)):
  RW w neg m (ag m 0) (W.setCell ⟨w.heap.size+1,1,ae⟩ (.slice (ah ⟨w.heap.size+1+1,0,ae⟩) m m)):=by
 have b:(w.alloc (.cells #[.bool aj,.slice ae 0 0] 215)).heap.size=w.heap.size+1:=iH
 have c:((w.alloc (.cells #[.bool aj,.slice ae 0 0] 215)).alloc (.cells #[.bool neg,.slice ae 0 0] 215)).heap.size=w.heap.size+1+1:=iH
 have a:=(((bJ _ w).alloc (aB _) (.cells #[.bool aj,.slice ae 0 0] 215)).alloc iH (.cells #[.bool neg,.slice ae 0 0] 215)).alloc iI (.cells (aW m (.int .u8 0)) 5);rw[<-h]at a;refine⟨a.setCell (p:=⟨w.heap.size+1,1,ae⟩) (by show w.heap.size<=w.heap.size+1;omega) _,?_,?_,?_,iH⟩
 ·rw[jm _ iE,h,aT _ _ _ iI,aT _ _ _ iH];exact aJ w _
 ·have hx:W.heap[w.heap.size+1]?=ah (.cells #[.bool neg,.slice ae 0 0] 215):=by
   rw[h,aT _ _ _ iH,<-b];exact aJ _ _
  simp[bu,aN,hx]
 ·rw[jm _ iE,h,<-c,aJ];simp[byteCells]
theorem G9:(Tryz.prog.info? 5).map (λi=>(i.zero,i.size,i.bytes))=ah (ah (.int .u8 0),1,1):=iF
theorem Ha (s:ByteArray)(w:aC)(hs:s.size<=maxLen):
  dH aV 153 #[.string s] w λe w'=>aS w.heap.size w w'/\pz w.heap.size s.data.toList e w':=by
 unfold maxLen at hs;have C:Hid (s.data.toList.length=s.size):=by show s.data.toList.length=s.size;simp
 by_cases I:1<s.size
 case' neg=>
  have e1:¬(1:Int)<s.size:=iE
  have t:sF s.data.toList=aj:=by unfold sF;rw[C.out];simp[I]
 case' pos=>
  have e1:(1:Int)<s.size:=iE
  by_cases B:s[0]=45
  case pos=>
   have ak:((s[0].toNat:Int)==45)=aU:=(by rw[B];rfl);obtain⟨T,al⟩:=iC (s.extract 1 s.size)
   have J:T.data.toList=s.data.toList.drop 1:=by rw[<-al];simp[ByteArray.data_extract];exact bK iH
   have ai:s.size - 1=T.size:=by have:=ig List.length J;simp at this;omega
   have t:sF s.data.toList=aU:=by unfold sF;rw[C.out,lC s 0 iE,B];simp[I]
   have D:qH s.data.toList=T.data.toList:=(by unfold qH;rw[gY t,J]);have aM:=aA (iJ J ai);clear J ai B;have c:Hid (T.data.toList.length=T.size):=by show T.data.toList.length=T.size;simp
   have n:Hid (kP s.data.toList=if T.size=0\/400<T.size\/(T.data.toList.getD 0 0=48/\1<s.size)then ae else if T.data.toList.all jZ then ah (aU,trimmed (kU T.data.toList))else ae):=by
    show _=_;unfold kP;rw[D,t,c.out]
    try rw[C.out]
   clear D t;by_cases g:T.size=0
   ·have d:Hid (kP s.data.toList=ae):=by show _=_;rw[n.out,gY (.inl g)]
    have K:((T.size:Int)==0)=aU:=(by rw[g];rfl);clear g;go_enter bF,bz;go_wp2;refine aO (v:=.tuple #[.agg #[.bool aj,.slice ae 0 0],.bool aj]) (by simp only[results,aP];go_simp) rfl ⟨?_,?_⟩
    ·exact((bJ _ w).alloc (aB _) _).alloc iH _
    ·unfold pz;rw[d.out]
   ·have K:((T.size:Int)==0)=aj:=by simp only[iy,ne_eq];omega
    by_cases l:400<T.size
    ·have d:Hid (kP s.data.toList=ae):=by show _=_;rw[n.out,gY (.inr (.inl l))]
     have L:(400:Int)<T.size:=iE;clear l;go_enter bF,bz;go_wp2;refine aO (v:=.tuple #[.agg #[.bool aj,.slice ae 0 0],.bool aj]) (by simp only[results,aP];go_simp) rfl ⟨?_,?_⟩
     ·exact((bJ _ w).alloc (aB _) _).alloc iH _
     ·unfold pz;rw[d.out]
    ·have L:¬(400:Int)<T.size:=iE
     have e6:(T.size:Int)<=400:=iE;have M:0<T.size:=iE;have r:T.data.toList.getD 0 0=T[0]:=lC T 0 M;by_cases f:T[0]=48/\1<s.size
     ·have d:Hid (kP s.data.toList=ae):=by show _=_;rw[n.out,gY (.inr (.inr (by rw[r];exact f)))]
      have e5:((T[0].toNat:Int)==48)=aU:=(by rw[f.1];rfl);clear f r g l;go_enter bF,bz;go_wp2;refine aO (v:=.tuple #[.agg #[.bool aj,.slice ae 0 0],.bool aj]) (by simp only[results,aP];go_simp) rfl ⟨?_,?_⟩
      ·exact((bJ _ w).alloc (aB _) _).alloc iH _
      ·unfold pz;rw[d.out]
     ·have d:Hid (kP s.data.toList=if T.data.toList.all jZ then ah (aU,trimmed (kU T.data.toList))else ae):=by
       show _=_;rw[n.out,gZ (by rw[r];intro h;rcases h with h|h|h;exact g h;exact l h;exact f h)]
      have e5:((T[0].toNat:Int)==48)=aj:=by simp only[iy,ne_eq];exact λe=>f ⟨dI.1 (by have e:(48:UInt8).toNat=48:=rfl;omega),I⟩
      clear f r g l;go_enter bF,bz
      go_wp2_with(refine vM aY G9 rfl _ rfl _ _ rfl T.size (w.heap.size+1+1) rfl rfl iE iE iH ?_)
      intro W E;have N:=aA (G8 w W aU T.size E.out);obtain⟨am,an⟩:=G7 w W aU T.size E.out;go_wp2
      go_loopw [45] (λu wr=>∃j:Nat,u=.int .i64 j/\j<=T.size/\(T.data.toList.take j).all jZ=aU/\RW w aU T.size (ru T.data.toList j) wr) (λu _=>T.size - (intOf u).toNat)
      case atStart=>exact⟨0,rfl,aK _,rfl,by rw[G6,c.out];exact N.out⟩
      case round=>
       obtain⟨j,rfl,ao,k,a⟩:=hrel;have y:=aA a;by_cases O:j<T.size
       ·have ap:(j:Int)<T.size:=iE
        have z:j<T.data.toList.length:=(by rw[c.out];exact O);have m:T.data.toList[j]=T[j]:=rfl;cases hd:jZ T[j]
        ·have P:Hid (kP s.data.toList=ae):=by
          show _=_;rw[d.out,gZ];intro h;have:=dW.1 h _ (aQ z);rw[m,hd]at this;cases this
         have Q:(T[j].toNat:Int)<48\/(¬(T[j].toNat:Int)<48/\57<(T[j].toNat:Int)):=by unfold jZ at hd;simp only[dO,decide_eq_false_iff_not]at hd;omega
         have R:=iK a.res 0 (.bool aj);have S:=iK a.res 1 (.slice ae 0 0);have g0:∀o,wr.frozen? ⟨w.heap.size,o,ae⟩=aj:=λo=>az a.res o
         clear hd k a m;rcases Q with hc|⟨hc,aq⟩
         all_goals
          go_wp2;refine aO (v:=.tuple #[.agg #[.bool aj,.slice ae 0 0],.bool aj]) (by simp only[results,aP];go_simp) rfl ⟨?_,?_⟩
          ·exact(y.out.below.setCell (p:=⟨w.heap.size,0,ae⟩) (aB _) _).setCell (p:=⟨w.heap.size,1,ae⟩) (aB _) _
          ·unfold pz;rw[P.out]
        ·obtain⟨q,U⟩:∃q,q+j+1=T.size:=⟨T.size - j - 1,iE⟩
         have A:=GZ (T:=T.data.toList) z (by rw[c.out];exact U);rw[m]at A
         have F:(T.data.toList.take (j+1)).all jZ=aU:=by rw[ax z,dZ,k,m];simp[hd]
         obtain⟨ar,av⟩:¬(T[j].toNat:Int)<48/\¬57<(T[j].toNat:Int):=by unfold jZ at hd;simp only[dD,decide_eq_true_eq]at hd;omega
         have hy:((T[j].toNat:Int) - 48)=((T[j] - 48).toNat:Int):=by rw[cZ _ _ (dh.2 (by have e:(48:UInt8).toNat=48:=rfl;omega))];have e:(48:UInt8).toNat=48:=rfl;omega
         have V:=aA A;have X:=aA F;have Y:=iK a.num 1 (.slice (ah ⟨w.heap.size+1+1,0,ae⟩) T.size T.size);have aw:∀o,wr.frozen? ⟨w.heap.size+1+1,o,ae⟩=aj:=λo=>az a.row o
         have aD:wr.cell? ⟨w.heap.size+1+1,q,ae⟩=ah (.int .u8 (((ru T.data.toList j).getD q 0).toNat:Int)):=RW.cell a iE;have aE:((T.size:Int) - 1 - j)=q:=iE;have aF:(q:Int)<T.size:=iE;clear A F k a m hd;go_wp2;go_region;go_wp2;go_roundw
         case rel=>exact⟨j+1,by go_num,iE,X.out,by rw[<-V.out];exact(y.out.set q _).drew⟩
         case measure=>simp[intOf];omega
       ·obtain rfl:j=T.size:=iE
        have Z:Hid (kP s.data.toList=ah (aU,trimmed (kU T.data.toList))):=by show _=_;rw[d.out,gY];rw[<-c.out,bn]at k;exact k
        have aa:(kU T.data.toList).length=T.size:=(by simp[kU,c.out]);have ab:=aA aa;rw[<-c.out,G5,c.out]at a;have G:=aA a;have Y:=iK a.num 1 (.slice (ah ⟨w.heap.size+1+1,0,ae⟩) T.size T.size);have g1:∀o,wr.frozen? ⟨w.heap.size+1,o,ae⟩=aj:=λo=>az a.num o
        have g0:∀o,wr.frozen? ⟨w.heap.size,o,ae⟩=aj:=λo=>az a.res o
        have R:=iK a.res 0 (.bool aj);have S:=iK a.res 1 (.slice ae 0 0);have n0:=iK a.num 0 (.bool aU);have ac:=aA (GU wr (w.heap.size+1+1) T.size T.size (kU T.data.toList) (by unfold maxLen;omega) (aB _) (λi hi=>RW.cell a hi));clear k a y
        go_wp2_with(go_at_call 172;refine(ac.out).mono ?_;rintro e aG ⟨rfl,rfl⟩)
        refine aO (v:=.tuple #[.agg #[.bool aU,.slice (ah ⟨w.heap.size+1+1,0,ae⟩) (trimLen (kU T.data.toList) T.size) T.size],.bool aU]) (by simp only[results,aP];go_simp) rfl ⟨?_,?_⟩
        ·exact((G.out.below.setCell (p:=⟨w.heap.size+1,1,ae⟩) (by show w.heap.size<=w.heap.size+1;omega) _).setCell (p:=⟨w.heap.size,0,ae⟩) (aB _) _).setCell (p:=⟨w.heap.size,1,ae⟩) (aB _) _
        ·have ad:=trimLen_le (kU T.data.toList) T.size
         have H:(trimmed (kU T.data.toList)).length=trimLen (kU T.data.toList) T.size:=by unfold trimmed;rw[bG,ab.out];omega
         unfold pz;rw[Z.out];refine⟨w.heap.size+1+1,T.size,by rw[H],iE,by rw[H];exact ad,iE,λi x hx=>?_⟩;refine(af (b:=w.heap.size+1+1) (by rw[jm _ iE,jm _ iE,jm _ iE];exact G.out.row) i).trans ?_;unfold trimmed at hx;rw[dR]at hx;split at hx
         ·simp[byteCells,hx]
         ·cases hx
  have ak:((s[0].toNat:Int)==45)=aj:=by simp only[iy,ne_eq];exact λe=>B (dI.1 (by have e:(45:UInt8).toNat=45:=rfl;omega))
  have t:sF s.data.toList=aj:=by unfold sF;rw[C.out,lC s 0 iE];simp[B]
  clear B
 all_goals
  have D:qH s.data.toList=s.data.toList:=by unfold qH;rw[gZ (by rw[t];simp)]
  have c:Hid (s.data.toList.length=s.size):=by show s.data.toList.length=s.size;simp
  have n:Hid (kP s.data.toList=if s.size=0\/400<s.size\/(s.data.toList.getD 0 0=48/\1<s.size)then ae else if s.data.toList.all jZ then ah (aj,trimmed (kU s.data.toList))else ae):=by
   show _=_;unfold kP;rw[D,t,c.out]
   try rw[C.out]
  clear D t;by_cases g:s.size=0
  ·have d:Hid (kP s.data.toList=ae):=by show _=_;rw[n.out,gY (.inl g)]
   have K:((s.size:Int)==0)=aU:=(by rw[g];rfl);clear g;go_enter bF,bz;go_wp2;refine aO (v:=.tuple #[.agg #[.bool aj,.slice ae 0 0],.bool aj]) (by simp only[results,aP];go_simp) rfl ⟨?_,?_⟩
   ·exact((bJ _ w).alloc (aB _) _).alloc iH _
   ·unfold pz;rw[d.out]
  ·have K:((s.size:Int)==0)=aj:=by simp only[iy,ne_eq];omega
   by_cases l:400<s.size
   ·first
    |exfalso;omega
    |have d:Hid (kP s.data.toList=ae):=by show _=_;rw[n.out,gY (.inr (.inl l))]
     have L:(400:Int)<s.size:=iE;clear l;go_enter bF,bz;go_wp2;refine aO (v:=.tuple #[.agg #[.bool aj,.slice ae 0 0],.bool aj]) (by simp only[results,aP];go_simp) rfl ⟨?_,?_⟩
     ·exact((bJ _ w).alloc (aB _) _).alloc iH _
     ·unfold pz;rw[d.out]
   ·have L:¬(400:Int)<s.size:=iE
    have e6:(s.size:Int)<=400:=iE;have M:0<s.size:=iE;have r:s.data.toList.getD 0 0=s[0]:=lC s 0 M;by_cases f:s[0]=48/\1<s.size
    ·first
     |exact absurd f.2 I
     |have d:Hid (kP s.data.toList=ae):=by show _=_;rw[n.out,gY (.inr (.inr (by rw[r];exact f)))]
      have e5:((s[0].toNat:Int)==48)=aU:=(by rw[f.1];rfl);clear f r g l;go_enter bF,bz;go_wp2;refine aO (v:=.tuple #[.agg #[.bool aj,.slice ae 0 0],.bool aj]) (by simp only[results,aP];go_simp) rfl ⟨?_,?_⟩
      ·exact((bJ _ w).alloc (aB _) _).alloc iH _
      ·unfold pz;rw[d.out]
    ·have d:Hid (kP s.data.toList=if s.data.toList.all jZ then ah (aj,trimmed (kU s.data.toList))else ae):=by
      show _=_;rw[n.out,gZ (by rw[r];intro h;rcases h with h|h|h;exact g h;exact l h;exact f h)]
     rcases Bool.eq_false_or_eq_true ((s[0].toNat:Int)==48)with e5|e5
     (try(
        have aL:1<s.size:=iE;have aR:=eq_of_beq e5;exact absurd ⟨dI.1 (by have e:(48:UInt8).toNat=48:=rfl;omega),aL⟩ f))
     all_goals clear f r g l
     all_goals
      go_enter bF,bz
      go_wp2_with(refine vM aY G9 rfl _ rfl _ _ rfl s.size (w.heap.size+1+1) rfl rfl iE iE iH ?_)
      intro W E;have N:=aA (G8 w W aj s.size E.out);obtain⟨am,an⟩:=G7 w W aj s.size E.out;go_wp2
      go_loopw [45] (λu wr=>∃j:Nat,u=.int .i64 j/\j<=s.size/\(s.data.toList.take j).all jZ=aU/\RW w aj s.size (ru s.data.toList j) wr) (λu _=>s.size - (intOf u).toNat)
      case atStart=>exact⟨0,rfl,aK _,rfl,by rw[G6,c.out];exact N.out⟩
      case round=>
       obtain⟨j,rfl,ao,k,a⟩:=hrel;have y:=aA a;by_cases O:j<s.size
       ·have ap:(j:Int)<s.size:=iE
        have z:j<s.data.toList.length:=(by rw[c.out];exact O);have m:s.data.toList[j]=s[j]:=rfl;cases hd:jZ s[j]
        ·have P:Hid (kP s.data.toList=ae):=by
          show _=_;rw[d.out,gZ];intro h;have:=dW.1 h _ (aQ z);rw[m,hd]at this;cases this
         have Q:(s[j].toNat:Int)<48\/(¬(s[j].toNat:Int)<48/\57<(s[j].toNat:Int)):=by unfold jZ at hd;simp only[dO,decide_eq_false_iff_not]at hd;omega
         have R:=iK a.res 0 (.bool aj);have S:=iK a.res 1 (.slice ae 0 0);have g0:∀o,wr.frozen? ⟨w.heap.size,o,ae⟩=aj:=λo=>az a.res o
         clear hd k a m;rcases Q with hc|⟨hc,aq⟩
         all_goals
          go_wp2;refine aO (v:=.tuple #[.agg #[.bool aj,.slice ae 0 0],.bool aj]) (by simp only[results,aP];go_simp) rfl ⟨?_,?_⟩
          ·exact(y.out.below.setCell (p:=⟨w.heap.size,0,ae⟩) (aB _) _).setCell (p:=⟨w.heap.size,1,ae⟩) (aB _) _
          ·unfold pz;rw[P.out]
        ·obtain⟨q,U⟩:∃q,q+j+1=s.size:=⟨s.size - j - 1,iE⟩
         have A:=GZ (T:=s.data.toList) z (by rw[c.out];exact U);rw[m]at A
         have F:(s.data.toList.take (j+1)).all jZ=aU:=by rw[ax z,dZ,k,m];simp[hd]
         obtain⟨ar,av⟩:¬(s[j].toNat:Int)<48/\¬57<(s[j].toNat:Int):=by unfold jZ at hd;simp only[dD,decide_eq_true_eq]at hd;omega
         have hy:((s[j].toNat:Int) - 48)=((s[j] - 48).toNat:Int):=by rw[cZ _ _ (dh.2 (by have e:(48:UInt8).toNat=48:=rfl;omega))];have e:(48:UInt8).toNat=48:=rfl;omega
         have V:=aA A;have X:=aA F;have Y:=iK a.num 1 (.slice (ah ⟨w.heap.size+1+1,0,ae⟩) s.size s.size);have aw:∀o,wr.frozen? ⟨w.heap.size+1+1,o,ae⟩=aj:=λo=>az a.row o
         have aD:wr.cell? ⟨w.heap.size+1+1,q,ae⟩=ah (.int .u8 (((ru s.data.toList j).getD q 0).toNat:Int)):=RW.cell a iE;have aE:((s.size:Int) - 1 - j)=q:=iE;have aF:(q:Int)<s.size:=iE;clear A F k a m hd;go_wp2;go_region;go_wp2;go_roundw
         case rel=>exact⟨j+1,by go_num,iE,X.out,by rw[<-V.out];exact(y.out.set q _).drew⟩
         case measure=>simp[intOf];omega
       ·obtain rfl:j=s.size:=iE
        have Z:Hid (kP s.data.toList=ah (aj,trimmed (kU s.data.toList))):=by show _=_;rw[d.out,gY];rw[<-c.out,bn]at k;exact k
        have aa:(kU s.data.toList).length=s.size:=(by simp[kU,c.out]);have ab:=aA aa;rw[<-c.out,G5,c.out]at a;have G:=aA a;have Y:=iK a.num 1 (.slice (ah ⟨w.heap.size+1+1,0,ae⟩) s.size s.size);have g1:∀o,wr.frozen? ⟨w.heap.size+1,o,ae⟩=aj:=λo=>az a.num o
        have g0:∀o,wr.frozen? ⟨w.heap.size,o,ae⟩=aj:=λo=>az a.res o
        have R:=iK a.res 0 (.bool aj);have S:=iK a.res 1 (.slice ae 0 0);have n0:=iK a.num 0 (.bool aj);have ac:=aA (GU wr (w.heap.size+1+1) s.size s.size (kU s.data.toList) (by unfold maxLen;omega) (aB _) (λi hi=>RW.cell a hi));clear k a y
        go_wp2_with(go_at_call 172;refine(ac.out).mono ?_;rintro e aG ⟨rfl,rfl⟩)
        refine aO (v:=.tuple #[.agg #[.bool aj,.slice (ah ⟨w.heap.size+1+1,0,ae⟩) (trimLen (kU s.data.toList) s.size) s.size],.bool aU]) (by simp only[results,aP];go_simp) rfl ⟨?_,?_⟩
        ·exact((G.out.below.setCell (p:=⟨w.heap.size+1,1,ae⟩) (by show w.heap.size<=w.heap.size+1;omega) _).setCell (p:=⟨w.heap.size,0,ae⟩) (aB _) _).setCell (p:=⟨w.heap.size,1,ae⟩) (aB _) _
        ·have ad:=trimLen_le (kU s.data.toList) s.size
         have H:(trimmed (kU s.data.toList)).length=trimLen (kU s.data.toList) s.size:=by unfold trimmed;rw[bG,ab.out];omega
         unfold pz;rw[Z.out];refine⟨w.heap.size+1+1,s.size,by rw[H],iE,by rw[H];exact ad,iE,λi x hx=>?_⟩;refine(af (b:=w.heap.size+1+1) (by rw[jm _ iE,jm _ iE,jm _ iE];exact G.out.row) i).trans ?_;unfold trimmed at hx;rw[dR]at hx;split at hx
         ·simp[byteCells,hx]
         ·cases hx
theorem He (A:List UInt8){n k:Nat}(h:A.length=k)(a:k<n)(x:UInt8):(A++ag (n - k) 0).set k x=(A++[x])++ag (n - (k+1)) 0:=by
 obtain⟨m,hm⟩:∃m,n - k=m+1:=⟨n - k - 1,iE⟩;rw[hm,dN _ _ iE,h,dE,List.replicate_succ,List.set_cons_zero,dA];rw[show n - (k+1)=m by omega]
 rfl
def jI (w:aC)(g:Nat)(L:List UInt8):Prop:=w.heap[g]?=ah (.cells (byteCells L).toArray 5)
theorem jI.cell {w:aC}{g:Nat}{L:List UInt8}(h:jI w g L){k:Nat}(a:k<L.length):w.cell? ⟨g,k,ae⟩=ah (.int .u8 ((L.getD k 0).toNat:Int)):=by refine(af h k).trans ?_;simp[byteCells,aH,au a]
theorem jI.set {w:aC}{g:Nat}{L:List UInt8}(h:jI w g L)(k:Nat)(x:UInt8):jI (w.setCell ⟨g,k,ae⟩ (.int .u8 x.toNat)) g (L.set k x):=by unfold jI at*;simp[bu,aN,h,byteCells,dQ]
theorem jI.below {w w':aC}{g:Nat}{L:List UInt8}(h:jI w g L)(a:aS w.heap.size w w'):jI w' g L:=by unfold jI at*;rw[a.block _ (ay.1 h).1];exact h
theorem Ba:(Tryz.prog.info? 5).map (λi=>(i.zero,i.size,i.bytes))=ah (ah (.int .u8 0),1,1):=iF
theorem Bc (n:Nat):(byteCells (ag n 0)).toArray=aW n (.int .u8 0):=by
 unfold byteCells;rw[List.map_replicate,List.toArray_replicate]
 rfl
def jP (l:List UInt8):List UInt8:=l.map (· - 48)
theorem OQ (s:ByteArray)(w:aC)(hs:s.size<=1000000)(hd:∀b∈s.data.toList,jZ b=aU):
  dH aV 175 #[.string s] w λe w'=>e=.returned (.slice (ah ⟨w.heap.size,0,ae⟩) s.size s.size)/\aS w.heap.size w w'/\jI w' w.heap.size (jP s.data.toList):=by
 have l:s.data.toList.length=s.size:=iH
 have C:(s.size:Int)<=1000000:=iE
 have c:=aI (iJ hd (iJ l hs));clear hd l hs;go_enter Tryz.func175,Tryz.ntmps175
 go_wp2_with(refine vM aY Ba rfl _ rfl _ _ rfl s.size w.heap.size rfl rfl (by have:=c.1.2.2;omega) (by have:=c.1.2.2;omega) rfl ?_)
 intro W m
 have n:PLift (jI W w.heap.size (ag s.size 0)/\aS w.heap.size w W):=⟨by rw[m];exact⟨by unfold jI;rw[Bc];exact aJ w _,iW w _⟩⟩
 clear m;go_wp2
 go_loopw [10] (λg wr=>∃k:Nat,g=.int .i64 k/\k<=s.size/\jI wr w.heap.size (jP (s.data.toList.take k)++ag (s.size - k) 0)/\aS w.heap.size w wr) (λg _=>s.size - (intOf g).toNat)
 case atStart=>exact⟨0,rfl,aK _,n.1.1,n.1.2⟩
 case round=>
  obtain⟨k,rfl,A,a,h⟩:=hrel;have o:=aI (iJ a h);have D:(0:Int)<=(k:Int):=iE
  by_cases B:k<s.size
  ·have E:(k:Int)<(s.size:Int):=iE
   have i:(jP (s.data.toList.take k)).length=k:=(by unfold jP;rw[dJ,bG,c.1.2.1];omega);have q:k<(jP (s.data.toList.take k)++ag (s.size - k) 0).length:=(by rw[bV,i,cu];omega);have hc:=a.cell q;have hf:=az a k;have F:w.heap.size<wr.heap.size:=(ay.1 a).1;have f:=c.1.1 s[k] (by have:(s.data.toList)[k]'(by have:=c.1.2.1;omega)=s[k]:=rfl;rw[<-this];exact aQ _)
   have r:jP (s.data.toList.take (k+1))=jP (s.data.toList.take k)++[s[k] - 48]:=by
    unfold jP;rw[ax (by have:=c.1.2.1;omega),ed]
    rfl
   have d:=a.set k (s[k] - 48);rw[He _ i B,<-r]at d;unfold jZ at f;simp only[dD,decide_eq_true_eq]at f
   have t:(s[k] - 48).toNat=s[k].toNat - 48:=by
    rw[cZ _ _ (by rw[dh];exact f.1)]
    rfl
   rw[t]at d;obtain⟨x,hx⟩:=iC (s[k].toNat);rw[hx]at d f;obtain⟨y,hy⟩:=iC (x - 48);rw[hy]at d;have G:(x:Int) - 48=(y:Int):=iE;have H:(48:Int)<=(x:Int):=iE;have I:(x:Int)<=57:=iE;obtain⟨z,u⟩:=iC ((((jP (s.data.toList.take k)++ag (s.size - k) 0).getD k 0).toNat:Int));rw[u]at hc;have j:=aI d;clear a h i q f r d t hy u A;go_wp2;go_roundw
   case rel=>exact⟨k+1,by go_num,iE,j.1,o.1.2.setCell (p:=⟨w.heap.size,k,ae⟩) (aB _) _⟩
   case measure=>simp[intOf];omega
  ·obtain rfl:k=s.size:=iE
   have J:¬(s.size:Int)<(s.size:Int):=iE;have v:jP (s.data.toList.take s.size)++ag (s.size - s.size) 0=jP s.data.toList:=(by rw[bK (by rw[c.1.2.1];exact aB _),dE];simp);rw[v]at a;have j:=aI a;clear a h v;go_wp2;go_ret;exact⟨rfl,o.1.2,j.1⟩
theorem Bj (s:ByteArray)(w:aC)(hs:s.size<=maxLen):
  dH aV 131 #[.string s] w λe w'=>e=.returned (.bool (kP s.data.toList).isSome)/\aS w.heap.size w w':=by
 have b:=aA (Ha s w hs);cases hr:kP s.data.toList with
 |none=>
  go_enter eQ,eF
  go_wp2_with(go_at_call 153;refine(b.out).mono ?_;rintro e d ⟨a,hp⟩;simp only[pz,hr]at hp;subst hp;replace a:=aA a)
  go_ret;exact⟨rfl,(a.out.alloc a.out.size _)⟩
 |some p=>
  go_enter eQ,eF
  go_wp2_with(go_at_call 153;refine(b.out).mono ?_;rintro e d ⟨a,hp⟩;simp only[pz,hr]at hp;obtain⟨g,c,rfl,-⟩:=hp;replace a:=aA a)
  go_ret;exact⟨rfl,(a.out.alloc a.out.size _)⟩
def sG (l:List UInt8):List UInt8:=(l.reverse.dropWhile (·==0)).reverse
def lK (l:List UInt8):List UInt8:=sG (l.dropWhile (·==0))
def yg (l:List UInt8)(e:Int):Int:=e+((l.dropWhile (·==0)).length:Int) - ((lK l).length:Int)
theorem OU {l:List UInt8}{i:Nat}(h:i<l.length)(a:l[i]=0):(l.drop i).dropWhile (·==0)=(l.drop (i+1)).dropWhile (·==0):=by rw[dC h,bT,a];rfl
theorem OV {l:List UInt8}{i:Nat}(h:i<l.length)(a:l[i]≠0):(l.drop i).dropWhile (·==0)=l.drop i:=by rw[dC h,bT];simp[a]
theorem OW {l:List UInt8}{k:Nat}(h:k<l.length)(a:l[k]=0):sG (l.take (k+1))=sG (l.take k):=by unfold sG;rw[ax h,dm,dK,dP,bT,a];rfl
theorem OX {l:List UInt8}{k:Nat}(h:k<l.length)(a:l[k]≠0):sG (l.take (k+1))=l.take (k+1):=by unfold sG;rw[ax h,dm,dK,dP,bT];simp[a]
def OY (w:aC)(neg:Bool)(L:List UInt8)(e:Int)(r:Ending)(w':aC):Prop:=
 aS w.heap.size w w'/\((L=[]/\r=.returned (.agg #[.bool aj,.slice ae 0 0,.int .i64 0]))\/(L≠[]/\∃h,w.heap.size<=h/\r=.returned (.agg #[.bool neg,.slice (ah ⟨h,0,ae⟩) L.length L.length,.int .i64 e])/\jI w' h L))
theorem Hf {x:UInt8}(h:((x.toNat:Int)==0)=aU):x=0:=by
 have b:(x.toNat:Int)=0:=by simpa using h
 have a:x.toNat=0:=iE
 rw[<-UInt8.ofNat_toNat (x:=x),a];rfl
theorem vO:(Tryz.prog.info? 219).map (·.size)=ah 3:=iF
theorem ry {w:aC}{g t:Nat}{a b c:bD}(h:w.heap[g]?=ah (.cells #[a,b,c] t))(x y z:bD):(((w.setCell ⟨g,0,ae⟩ x).setCell ⟨g,1,ae⟩ y).setCell ⟨g,2,ae⟩ z).heap[g]?=ah (.cells #[x,y,z] t):=by simp[bu,aN,h]
theorem Bd {w:aC}{g k:Nat}(x y z:bD)(h:k≠g):(((w.setCell ⟨g,0,ae⟩ x).setCell ⟨g,1,ae⟩ y).setCell ⟨g,2,ae⟩ z).heap[k]?=w.heap[k]?:=by
 have a:¬g=k:=λe=>h e.symm
 simp[bu,aN,a]
theorem vP {w w0:aC}{g:Nat}(b:aS w0.heap.size w0 w)(a:w0.heap.size<=g)(x y z:bD):aS w0.heap.size w0 (((w.setCell ⟨g,0,ae⟩ x).setCell ⟨g,1,ae⟩ y).setCell ⟨g,2,ae⟩ z):=
 ((b.setCell (p:=⟨g,0,ae⟩) a x).setCell (p:=⟨g,1,ae⟩) a y).setCell (p:=⟨g,2,ae⟩) a z
theorem OZ {w:aC}{h n:Nat}(X:List UInt8)(hx:X.length=n):jI w h (ag n 0)->jI (w.setRow h (((byteCells (ag n 0)).toArray.toList.take 0++(byteCells X++(byteCells (ag n 0)).toArray.toList.drop (0+(byteCells X).length)))).toArray) h X:=by
 intro hr;unfold jI at*;have a:(byteCells X).length=n:=by simp[byteCells,hx]
 have b:(byteCells (ag n 0)).length=n:=by simp[byteCells]
 have c:h<w.heap.size:=(ay.1 hr).1;rw[eu,dX,Nat.zero_add,a,dL (by simp only[List.size_toArray,Array.length_toList];omega),List.append_nil];simp only[World.setRow,aN,hr];simp
theorem O0:(Tryz.prog.info? 5).map (·.size)=ah 1:=iF
theorem O1 {w:aC}{ops:Array eP}{rest:List eP}{o:eP}{a:Act}{Q:Exit->Act->aC->Prop}(l:o.guard=ae)(d s:Operand)
  (m:o.op=.call {callee:=.builtin .copy,args:=#[d,s],argTypes:=#[49,49]})(g n f:Nat)(ad:Addr)(h:Nat)(hd:a.eval d=.slice (ah ⟨g,0,ae⟩) n f)(hs:a.eval s=.slice (ah ad) n h)
  (X:List UInt8)(i:X.length=n)(hr:jI w g (ag n 0))(p:∀(j:Nat) (e:j<X.length),w.cell? (ad.add j)=ah (.int .u8 (X[j].toNat:Int)))
  (hK:∀b:aC,Hid (jI b g X/\(∀k,k≠g->b.heap[k]?=w.heap[k]?)/\(∀(w0:aC) (B:Nat),aS B w0 w->B<=g->aS B w0 b))->wpList aV ops Q rest (a.put o.dst (.int .i64 (n:Int))) b):wpList aV ops Q (o::rest) a w:=by
 have c:(byteCells X).length=n:=by simp[byteCells,i]
 refine wpList_copy_own l d s _ _ m 5 aY O0 g 0 n f ad n h hd hs _ _ hr (byteCells X) (by rw[c];exact(Nat.min_self n).symm) (λj v hv=>?_) (by rw[c];simp[byteCells]) (AP _) ?_
 ·have e:j<X.length:=by
   have:=(bC.1 hv).1;simpa[byteCells]using this
  rw[p j e];simp[byteCells,au e]at hv;rw[hv]
 ·rw[c]
  refine hK _ ⟨?_,λk q=>setRow_other _ _ _ _ q,λw0 B r t=>below_setRow r t _⟩;have:=OZ X i hr;rw[c]at this;exact this
theorem O3 (neg:Bool)(L:List UInt8)(e:Int)(g:Nat)(w:aC)(Q:jI w g L)(hn:L.length<=1000000)(aq: -1000000000000000000<=e)(ar:e<=1000000000000000000):
  dH aV 174 #[.bool neg,.slice (ah ⟨g,0,ae⟩) L.length L.length,.int .i64 e] w λr w'=>OY w neg (lK L) (yg L e) r w':=by
 have av:g<w.heap.size:=(ay.1 Q).1;obtain⟨n,R⟩:=iC L.length;have D:=aI (iJ R hn);have S:=aI (show ∀W',aS w.heap.size w W'->jI W' g L from λW' y=>Q.below y);rw[R];have aw:(n:Int)<=1000000:=iE
 clear Q hn R;go_enter Tryz.func174,Tryz.ntmps174;go_wp2;obtain⟨W,T⟩:=iC (w.alloc (.cells #[.bool aj,.slice ae 0 0,.int .i64 0] 219));have a:PLift (aS w.heap.size w W/\W.heap[w.heap.size]?=ah (.cells #[.bool aj,.slice ae 0 0,.int .i64 0] 219)):=⟨by rw[<-T];exact⟨iW w _,aJ w _⟩⟩;rw[T];clear T;have aD:=iK a.1.2 0 (.bool aj);have aE:=iK a.1.2 1 (.slice ae 0 0);have aF:=iK a.1.2 2 (.int .i64 0);have aG:=az a.1.2 0;have aL:=az a.1.2 1;have aM:=az a.1.2 2
 go_loopw [1] (λl wr=>∃(i o c:Nat),l=.slice (ah ⟨g,o,ae⟩) (n - i) c/\i<=n/\(i<n->o=i/\c=n - i)/\L.dropWhile (·==0)=(L.drop i).dropWhile (·==0)/\wr=W) (λl _=>match l with|.slice _ m _=>m|_=>0)
 case atStart=>exact⟨0,0,n,by rw[Nat.sub_zero],aK _,λ_=>⟨rfl,iE⟩,rfl,rfl⟩
 case round=>
  obtain⟨i,o,c,rfl,hi,E,q,rfl⟩:=hrel;by_cases z:i<n
  ·obtain⟨rfl,rfl⟩:=E z
   obtain⟨m,hm⟩:∃m,n - o=m+1:=⟨n - o - 1,iE⟩;rw[hm];have s:o<L.length:=(by have:=D.1;omega);have F:=(S.1 wr a.1.1).cell s;rw[aH,au s,bQ]at F;have aR:(0:Int)<(m:Int)+1:=iE;have U:=aI (iJ q (iJ hm z));have a0:=aI s;by_cases d:L[o]=0
   ·have am:wr.cell? ⟨g,o,ae⟩=ah (.int .u8 0):=by rw[F,d];rfl
    have G:=aI (q.trans (OU s d));clear F d q hm E z s;go_wp2;go_roundw
    case rel=>have A:=U.1.2.1;exact⟨o+1,if m=0 then o else o+1,m,by rw[show n - (o+1)=m by omega];by_cases an:m=0<;>simp[an],iE,λh=>⟨gZ iE,iE⟩,G.1,trivial⟩
    case measure=>simp
   ·obtain⟨b,y⟩:=iC ((L[o].toNat:Int))
    have a1:¬b=0:=λh=>d (Hf (by rw[y,h];rfl))
    rw[y]at F;have G:=aI (q.trans (OV s d));clear y d q hm E z s;go_wp2
    go_loopw [1,2] (λl ev V=>∃k:Nat,k<=m+1/\l=.slice (ah ⟨g,o,ae⟩) k (m+1)/\ev=.int .i64 (e+((m+1:Nat):Int) - (k:Int))/\lK L=sG ((L.drop o).take k)/\V=wr) (λl _ _=>match l with|.slice _ k _=>k|_=>0)
    case atStart=>have A:=U.1.2.1;have H:=D.1.1;exact⟨m+1,aB _,rfl,by congr 1;omega,by unfold lK;rw[G.1,bK (by rw[aZ];omega)],rfl⟩
    case round=>
     obtain⟨k,I,rfl,rfl,u,rfl⟩:=hrel;cases k with
     |zero=>
      have v:=aI u;clear u;go_wp2
      (try simp only[Exit.inBlock,Exit.then])
      refine aO (dF rfl _ _ w.heap.size _ _ _ _ rfl (ry a.1.2 _ _ _) dn rfl vO) rfl ?_;refine⟨vP a.1.1 (aB _) _ _ _,.inl ⟨?_,rfl⟩⟩;rw[v.1,eu];rfl
     |succ k=>
      have A:=U.1.2.1;have H:=D.1.1;have J:o+k<L.length:=iE;have K:=(S.1 wr a.1.1).cell J;rw[aH,au J,bQ]at K;have a2:(k:Int)<=(m:Int):=iE;have a3:(0:Int)<(k:Int)+1:=iE;have a4:(k:Int)<(k:Int)+1:=iE;have a5:(0:Int)<=(k:Int):=iE;have a6:((k:Int)+1 - 1)=k:=iE;have a7:(m:Int)+1<=1000000:=iE;have a8:(k:Int)<=(m:Int)+1:=iE;have B:k<(L.drop o).length:=(by rw[aZ];omega);have M:(L.drop o)[k]=L[o+k]:=dU;by_cases d:L[o+k]=0
      ·have am:wr.cell? ⟨g,o+k,ae⟩=ah (.int .u8 0):=by rw[K,d];rfl
       have v:=aI (u.trans (OW B (M.trans d)));have C:=aI I;clear K d u B M J A H I;go_wp2;go_roundw
       case rel=>exact⟨k,by have:=C.1;omega,rfl,by congr 1;push_cast;omega,v.1,trivial⟩
       case measure=>exact Nat.lt_succ_self k
      ·obtain⟨b2,x⟩:=iC ((L[o+k].toNat:Int))
       have a9:((k:Int)+1==0)=aj:=iI;have aa:¬b2=0:=λh=>d (Hf (by rw[x,h];rfl))
       rw[x]at K;have ba:(b2==0)=aj:=(by simp;exact aa);clear aa;have v:=aI (u.trans (OX B (λh=>d (M.symm.trans h))));have C:=aI (iJ I (iJ A (iJ H B)));clear x d u B M J A H I
       go_upto_region 6 with fail
       go_wp2_with(refine vM aY Ba rfl _ rfl _ _ rfl (k+1) wr.heap.size rfl rfl iE iE rfl ?_)
       intro N X;have x:aS wr.heap.size wr N:=(by rw[X];exact iW wr _);have ab:jI N wr.heap.size (ag (k+1) 0):=(by rw[X];unfold jI;rw[Bc];exact aJ wr _);have ac:w.heap.size<wr.heap.size:=(ay.1 a.1.2).1;have f:=aI (iJ x (iJ ab ac));clear X x ab ac
       go_upto_region 9 with fail
       have ad:((L.drop o).take (k+1)).length=k+1:=by rw[bG];have:=C.1.2.2.2;omega
       have ai:∀(j:Nat) (ak:j<((L.drop o).take (k+1)).length),N.cell? ((⟨g,o,ae⟩:Addr).add j)=ah (.int .u8 (((L.drop o).take (k+1))[j].toNat:Int)):=by intro j ak;have al:o+j<L.length:=(by rw[bG,aZ]at ak;omega);rw[show(⟨g,o,ae⟩:Addr).add j=⟨g,o+j,ae⟩ by unfold Addr.add;split<;>simp_all];refine((S.1 N (a.1.1.trans (f.1.1.mono (bY f.1.2.2)))).cell al).trans ?_;rw[aH,au al,bQ,List.getElem_take,dU]
       have Y:=aI (iJ ad ai);clear ad ai
       go_wp2_with(refine O1 rfl _ _ rfl wr.heap.size (k+1) (k+1) ⟨g,o,ae⟩ (m+1) rfl rfl _ Y.1.1 f.1.2.1 Y.1.2 ?_)
       intro t O
       have p:t.heap[w.heap.size]?=ah (.cells #[.bool aj,.slice ae 0 0,.int .i64 0] 219):=by rw[O.out.2.1 _ (Nat.ne_of_lt f.1.2.2),f.1.1.block _ f.1.2.2];exact a.1.2
       have bb:=iK p 0 (.bool aj);have bc:=iK p 1 (.slice ae 0 0);have bd:=iK p 2 (.int .i64 0);have be:=az p 0;have bf:=az p 1;have bg:=az p 2;have Z:=aI (iJ O.out.1 (iJ p (O.out.2.2 w w.heap.size (a.1.1.trans (f.1.1.mono (bY f.1.2.2))) (bY f.1.2.2))));clear O p;go_wp2
       (try simp only[Exit.inBlock,Exit.then])
       refine aO (dF rfl _ _ w.heap.size _ _ _ _ rfl (ry Z.1.2.1 _ _ _) dn rfl vO) rfl ?_;have P:(lK L).length=k+1:=by rw[v.1];exact Y.1.1
       have ao:yg L e=e+((m+1:Nat):Int) - ((k+1:Nat):Int):=by unfold yg;rw[P,G.1,aZ,C.1.2.2.1,C.1.2.1]
       refine⟨vP Z.1.2.2 (aB _) _ _ _,.inr ⟨(λh=>by rw[h]at P;cases P),wr.heap.size,bY f.1.2.2,?_,?_⟩⟩
       ·rw[P,ao];rfl
       ·rw[v.1]
        unfold jI;rw[Bd _ _ _ (Nat.ne_of_gt f.1.2.2)];exact Z.1.1
  ·obtain rfl:i=n:=iE
   rw[dE];have ap:=aI q;clear q E z;go_wp2
   go_loopw [1,2] (λl ev V=>l=.slice (ah ⟨g,o,ae⟩) 0 c/\ev=.int .i64 e/\V=wr) (λ_ _ _=>0)
   case atStart=>exact⟨rfl,rfl,rfl⟩
   case round=>
    obtain⟨rfl,rfl,rfl⟩:=hrel;go_wp2
    (try simp only[Exit.inBlock,Exit.then])
    refine aO (dF rfl _ _ w.heap.size _ _ _ _ rfl (ry a.1.2 _ _ _) dn rfl vO) rfl ?_;refine⟨vP a.1.1 (aB _) _ _ _,.inl ⟨?_,rfl⟩⟩;unfold lK;rw[ap.1,dL (by have:=D.1.1;omega)];rfl
def pG (n:Nat)(e:Int):Int:=if 400<n then 6 else if e< -2000\/2000<e then 2 else 0
def oM (neg:Bool)(s:bD)(e:Int):bD:=.agg #[.bool neg,s,.int .i64 e]
theorem O4 (neg:Bool)(p:Option Addr)(n c:Nat)(e:Int)(hn:n<=1000000)(w:aC):
  dH aV 176 #[oM neg (.slice p n c) e] w λr w'=>r=.returned (.int .i64 (pG n e))/\aS w.heap.size w w':=by
 unfold oM;have g:(n:Int)<=1000000:=iE
 clear hn;by_cases a:400<n
 ·have hi:(400:Int)<(n:Int):=iE
  have b:=aI (show pG n e=6 by unfold pG;rw[gY a]);clear a;go_enter dG,dw;go_wp2;go_ret;exact⟨by rw[b.1];rfl,iW w _⟩
 ·have hi:¬(400:Int)<(n:Int):=iE
  by_cases d:e< -2000
  ·have b:=aI (show pG n e=2 by unfold pG;rw[gZ a,gY (.inl d)])
   clear a;go_enter dG,dw;go_wp2;go_ret;exact⟨by rw[b.1];rfl,iW w _⟩
  ·by_cases f:2000<e
   ·have b:=aI (show pG n e=2 by unfold pG;rw[gZ a,gY (.inr f)])
    clear a;go_enter dG,dw;go_wp2;go_ret;exact⟨by rw[b.1];rfl,iW w _⟩
   ·have b:=aI (show pG n e=0 by unfold pG;rw[gZ a,gZ (λh=>h.elim d f)])
    clear a;go_enter dG,dw;go_wp2;go_ret;exact⟨by rw[b.1];rfl,iW w _⟩
def zA (neg:Bool):ByteArray:=if neg then⟨#[45]⟩else⟨#[]⟩
theorem O5 (neg:Bool)(s:bD)(e:Int)(hs:∃p n c,s=.slice p n c)(w:aC):
  dH aV 211 #[oM neg s e] w λr w'=>r=.returned (.string (zA neg))/\aS w.heap.size w w':=by
 obtain⟨p,n,c,rfl⟩:=hs;unfold oM;cases neg with
 |true=>go_enter eU,eG;go_wp2;go_ret;exact⟨rfl,iW w _⟩
 |false=>go_enter eU,eG;go_wp2;go_ret;exact⟨rfl,iW w _⟩
theorem Hg {w:aC}{g cap:Nat}{L:List UInt8}(h:jI w g L):(convert 49 9 (.slice (ah ⟨g,0,ae⟩) L.length cap)).run aV w=.ok (.string ⟨L.toArray⟩) w:=by refine run_convert_bytes_back w 49 9 5 ⟨g,0,ae⟩ cap L aY Tryz.underlying5 Tryz.underlying9 ?_;intro j a;rw[show(⟨g,0,ae⟩:Addr).add j=⟨g,j,ae⟩ by unfold Addr.add;split<;>simp_all];refine(h.cell a).trans ?_;rw[aH,au a,bQ]
def lU (L:List UInt8):List UInt8:=L.map (48+·)
theorem O6 (neg:Bool)(L:List UInt8)(h:Nat)(e:Int)(w:aC)(a:jI w h L)(hn:L.length<=1000000)(hd:∀b∈L,b.toNat<=9):
  dH aV 212 #[oM neg (.slice (ah ⟨h,0,ae⟩) L.length L.length) e] w λr w'=>r=.returned (.string ⟨(lU L).toArray⟩)/\aS w.heap.size w w':=by
 unfold oM;have N:h<w.heap.size:=(ay.1 a).1;obtain⟨n,j⟩:=iC L.length;have G:=aI (iJ j hn);have H:=aI hd;have I:=aI (show ∀W',aS w.heap.size w W'->jI W' h L from λW' J=>a.below J);rw[j];have O:(n:Int)<=1000000:=iE
 clear a hn j hd;go_enter Tryz.func212,Tryz.ntmps212
 go_upto_region 1 with fail
 obtain⟨W0,l⟩:=iC (w.alloc (.cells #[.bool neg,.slice (ah ⟨h,0,ae⟩) n n,.int .i64 e] 219));have c:PLift (aS w.heap.size w W0/\W0.heap[w.heap.size]?=ah (.cells #[.bool neg,.slice (ah ⟨h,0,ae⟩) n n,.int .i64 e] 219)/\w.heap.size<W0.heap.size):=⟨by rw[<-l];exact⟨iW w _,aJ w _,(ay.1 (aJ w _)).1⟩⟩;rw[l];clear l;have P:=iK c.1.2.1 1 (.slice (ah ⟨h,0,ae⟩) n n)
 go_wp2_with(refine vM aY Ba rfl _ rfl _ _ rfl n W0.heap.size rfl rfl iE iE rfl ?_)
 intro W t
 have m:PLift (aS W0.heap.size W0 W/\jI W W0.heap.size (ag n 0)):=⟨by rw[t];exact⟨iW W0 _,by unfold jI;rw[Bc];exact aJ W0 _⟩⟩
 have Q:W.cell? ⟨w.heap.size,1,ae⟩=ah (.slice (ah ⟨h,0,ae⟩) n n):=af ((m.1.1.block _ c.1.2.2).trans c.1.2.1) 1;clear t;go_wp2
 go_loopw [13] (λo wr=>∃k:Nat,o=.int .i64 k/\k<=n/\jI wr W0.heap.size (lU (L.take k)++ag (n - k) 0)/\aS w.heap.size w wr) (λo _=>n - (intOf o).toNat)
 case atStart=>exact⟨0,rfl,aK _,m.1.2,c.1.1.trans (m.1.1.mono (bY c.1.2.2))⟩
 case round=>
  obtain⟨k,rfl,u,a,f⟩:=hrel;have v:=aI (iJ a f);have R:(0:Int)<=(k:Int):=iE
  have q:=G.1.1;by_cases g:k<n
  ·have S:(k:Int)<(n:Int):=iE
   have i:k<L.length:=iE;have s:(lU (L.take k)).length=k:=(by unfold lU;rw[dJ,bG];omega);have y:k<(lU (L.take k)++ag (n - k) 0).length:=(by rw[bV,s,cu];omega);have hc:=a.cell y;have hf:=az a k;have A:=(I.1 wr f).cell i;rw[aH,au i,bQ]at A;have K:=H.1 L[k] (aQ _)
   have B:lU (L.take (k+1))=lU (L.take k)++[48+L[k]]:=by
    unfold lU;rw[ax i,ed]
    rfl
   have d:=a.set k (48+L[k]);rw[He _ s g,<-B]at d;have C:((48+L[k]:UInt8).toNat:Int)=48+(L[k].toNat:Int):=(by rw[UInt8.toNat_add];show(((48+L[k].toNat)%256:Nat):Int)=_;omega);rw[C]at d;obtain⟨x,hx⟩:=iC ((L[k].toNat:Int));rw[hx]at d A;have T:(0:Int)<=x:=iE;have U:x<=9:=iE;obtain⟨z,D⟩:=iC ((((lU (L.take k)++ag (n - k) 0).getD k 0).toNat:Int));rw[D]at hc;have M:=aI d;have E:=aI g;clear a f s y K B d C D u g i q hx;go_wp2;go_roundw
   case rel=>exact⟨k+1,by go_num,by have:=E.1;omega,M.1,v.1.2.setCell (p:=⟨W0.heap.size,k,ae⟩) (bY c.1.2.2) _⟩
   case measure=>have:=E.1;simp[intOf];omega
  ·obtain rfl:k=n:=iE
   have V:¬(k:Int)<(k:Int):=iE;have F:lU (L.take k)++ag (k - k) 0=lU L:=(by rw[bK iE,dE];simp);rw[F]at a;have hcv:=Hg (cap:=k) a;rw[show(lU L).length=k by unfold lU;rw[dJ,q]]at hcv;clear a f F u g q;go_wp2;go_ret;exact⟨rfl,v.1.2⟩
