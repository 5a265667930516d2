import Derived.Test.YthcalnnipjflkaaGreatDoorP17
open PLift renaming up -> ae
open Go.Lib renaming cell_of_heap -> af
open List renaming getD_eq_getElem?_getD -> ag, getElem?_eq_getElem -> ah
open Nat renaming le_refl -> aj
set_option linter.all false
set_option maxHeartbeats 4000000
set_option maxRecDepth 100000
namespace Go.Proofs.YthcalnnipjflkaaGreatDoor
open Go.RowKit
open Go.Lib hiding intOf
def uI (w:World)(s:Value)(L:List UInt8):Prop:=∃g c,s=.slice (some ⟨g,0,none⟩) L.length c/\L.length<=c/\c<=400/\∀j x,L[j]?=some x->w.cell? ⟨g,j,none⟩=some (.int .u8 ((x.toNat:Int)))
theorem uI.below {w w':World}{s:Value}{L:List UInt8}(h:uI w s L)(a:Below w.heap.size w w'):uI w' s L:=by obtain⟨g,c,b,d,e,f⟩:=h;exact⟨g,c,b,d,e,λj x hx=>cell_later a (f j x hx)⟩
def uJ (L M:List UInt8):Nat->Int
 |0=>0
 |n+1=>if(L.getD n 0).toNat=(M.getD n 0).toNat then uJ L M n else if(L.getD n 0).toNat<(M.getD n 0).toNat then -1 else 1
def yQ (L M:List UInt8):Int:=if L.length=M.length then uJ L M L.length else if L.length<M.length then -1 else 1
theorem JI (s t:Value)(L M:List UInt8)(w:World)(F:uI w s L)(G:uI w t M):
  Calls Tryz.prog 191 #[s,t] w λr w'=>r=.returned (.int .i64 (yQ L M))/\Below w.heap.size w w':=by
 obtain⟨g,c,rfl,H,R,z⟩:=F;obtain⟨g',S,rfl,I,T,A⟩:=G;have J:(L.length:Int)<=400:=iE
 have K:(M.length:Int)<=400:=iE
 have B:=ae (iJ z A);have e:=ae (show yQ L M=if L.length=M.length then uJ L M L.length else if L.length<M.length then -1 else 1 from rfl);clear z A;by_cases h:L.length=M.length
 ·have e:=ae (e.1.trans (gY h))
  rw[<-h];have C:=ae h;obtain⟨n,hn⟩:=iC L.length;rw[hn]at C;rw[hn]at H J e⊢;have N:=ae hn;clear h hn I K;go_enter Tryz.func191,Tryz.ntmps191
  go_upto_region 6 with fail
  go_loopw [5] (λp wr=>∃i:Nat,p=.int .i64 ((i:Int) - 1)/\i<=n/\uJ L M i=uJ L M n/\Below w.heap.size w wr) (λp _=>(intOf p+1).toNat)
  case atStart=>exact⟨n,by go_num,aj _,rfl,Below.refl _ _⟩
  case round=>
   obtain⟨i,rfl,q,m,l⟩:=hrel;have j:=ae l;cases i with
   |zero=>have d:=ae (show uJ L M n=0 from m.symm);have f:¬(0:Int)<=((0:Nat):Int) - 1:=iE;clear m l q;go_wp2;go_ret;exact⟨by rw[e.1,d.1];rfl,j.1⟩
   |succ k=>
    have U:(k:Int)<(n:Int):=iE;have V:(0:Int)<=(k:Int):=iE;have e1:((k+1:Nat):Int) - 1=(k:Int):=iE;rw[e1];obtain⟨a,ha⟩:=iC ((L.getD k 0));obtain⟨b,u⟩:=iC ((M.getD k 0));have D:L[k]?=some a:=(by rw[<-ha,ag,ah (by have:=N.1;omega)];rfl);have E:M[k]?=some b:=(by rw[<-u,ag,ah (by have:=C.1;omega)];rfl);have ca:wr.cell? ⟨g,k,none⟩=some (.int .u8 (a.toNat:Int)):=cell_later l (B.1.1 k a D);have O:wr.cell? ⟨g',k,none⟩=some (.int .u8 (b.toNat:Int)):=cell_later l (B.1.2 k b E)
    have d:PLift (uJ L M n=if a.toNat=b.toNat then uJ L M k else if a.toNat<b.toNat then -1 else 1):=⟨by rw[<-m];show(if(L.getD k 0).toNat=(M.getD k 0).toNat then uJ L M k else if(L.getD k 0).toNat<(M.getD k 0).toNat then -1 else 1)=_;rw[ha,u]⟩
    have P:=ae q;obtain⟨x,hx⟩:∃x:Nat,a.toNat=x:=⟨_,rfl⟩;obtain⟨y,hy⟩:∃y:Nat,b.toNat=y:=⟨_,rfl⟩;rw[hx]at ca d;rw[hy]at O d;clear m l q ha u D E hx hy e1;by_cases o:x=y
    ·subst o
     have d:=ae (d.1.trans (gY rfl))
     go_upto_region 8 with fail
     go_big_quiet (fail)
     go_wp2;go_roundw
     case rel=>exact⟨k,by go_num,by have:=P.1;omega,d.1.symm,by first|exact j.1|exact j.1.trans ⟨rfl,rfl,rfl,aj _,λ_ _=>rfl⟩⟩
     case measure=>simp[intOf]
    ·have d:=ae (d.1.trans (gZ o))
     have Q:((x:Int)==(y:Int))=false:=iI;by_cases f:x<y
     ·have d:=ae (d.1.trans (gY f))
      have v:(x:Int)<(y:Int):=iE;clear o f
      go_upto_region 8 with fail
      go_big_quiet (fail)
      go_upto_region 9 with fail
      go_big_quiet (fail)
      go_wp2;go_ret;exact⟨by rw[e.1,d.1];rfl,by first|exact j.1|exact j.1.trans ⟨rfl,rfl,rfl,aj _,λ_ _=>rfl⟩⟩
     ·have d:=ae (d.1.trans (gZ f))
      have v:¬(x:Int)<(y:Int):=iE;clear o f
      go_upto_region 8 with fail
      go_big_quiet (fail)
      go_upto_region 9 with fail
      go_big_quiet (fail)
      go_wp2;go_ret;exact⟨by rw[e.1,d.1];rfl,by first|exact j.1|exact j.1.trans ⟨rfl,rfl,rfl,aj _,λ_ _=>rfl⟩⟩
 ·have e:=ae (e.1.trans (gZ h))
  have Q:((L.length:Int)==(M.length:Int))=false:=iI
  by_cases f:L.length<M.length
  ·have e:=ae (e.1.trans (gY f))
   have v:(L.length:Int)<(M.length:Int):=iE;clear h f;go_enter Tryz.func191,Tryz.ntmps191;go_wp2;go_ret;exact⟨by rw[e.1];rfl,Below.refl _ _⟩
  ·have e:=ae (e.1.trans (gZ f))
   have v:¬(L.length:Int)<(M.length:Int):=iE;clear h f;go_enter Tryz.func191,Tryz.ntmps191;go_wp2;go_ret;exact⟨by rw[e.1];rfl,Below.refl _ _⟩
def kM (s:ByteArray):(Bool×List UInt8)×Bool:=match kP s.data.toList with
 |none=>((false,[]),false)
 |some r=>(r,true)
theorem JJ (s:ByteArray)(hs:s.size<=maxLen)(w:World):
  Calls Tryz.prog 153 #[.string s] w λr w'=>Below w.heap.size w w'/\∃p n c,r=.returned (.tuple #[.agg #[.bool (kM s).1.1,.slice p n c],.bool (kM s).2])/\((kM s).2 =true->uI w' (.slice p n c) (kM s).1.2):=by
 refine(Ha s w hs).mono ?_;rintro r w' ⟨a,h⟩;refine⟨a,?_⟩;unfold pz at h;unfold kM;cases hr:kP s.data.toList with
 |none=>rw[hr]at h;exact⟨none,0,0,h,λh=>by cases h⟩
 |some x=>obtain⟨i,ds⟩:=x;rw[hr]at h;obtain⟨g,c,b,_,d,e,f⟩:=h;exact⟨_,_,_,b,λ_=>⟨g,c,rfl,d,e,f⟩⟩
def ET (s t:ByteArray):Int:=
 if(kM s).2 &&(kM t).2 then
  (if(kM s).1.1 then(if(kM t).1.1 then yQ (kM t).1.2 (kM s).1.2 else -1)else(if(kM t).1.1 then 1 else yQ (kM s).1.2 (kM t).1.2))
 else 0
theorem UI (s t:ByteArray)(hs:s.size<=maxLen)(I:t.size<=maxLen)(w:World):
  Calls Tryz.prog 166 #[.string s,.string t] w λr w'=>r=.returned (.int .i64 (ET s t))/\Below w.heap.size w w':=by
 have J:=ae (JJ s hs w);have K:=ae (λ(X:World)=>JJ t I X)
 have f:=ae (show ET s t=if(kM s).2 &&(kM t).2 then
  (if(kM s).1.1 then(if(kM t).1.1 then yQ (kM t).1.2 (kM s).1.2 else -1)else(if(kM t).1.1 then 1 else yQ (kM s).1.2 (kM t).1.2))
  else 0 from rfl)
 obtain⟨j,v⟩:=iC ((kM s).1.1 );obtain⟨L,y⟩:=iC ((kM s).1.2 );obtain⟨ok,z⟩:=iC ((kM s).2 );obtain⟨i,g1⟩:=iC ((kM t).1.1 );obtain⟨M,g2⟩:=iC ((kM t).1.2 );obtain⟨is,A⟩:=iC ((kM t).2 );rw[v,y,z]at J;rw[g1,g2,A]at K;rw[v,y,z,g1,g2,A]at f;clear v y z g1 g2 A hs I;go_enter Tryz.func166,Tryz.ntmps166
 go_upto_region 2 with(go_at_call 153;refine J.1.mono ?_;rintro e d ⟨N,p,n,c,rfl,O⟩;have B:=ae (iJ N O);clear N O)
 obtain⟨k,C⟩:=iC (d.alloc (.cells #[.bool j,.slice p n c] 215))
 have l:PLift (Below w.heap.size w k/\(ok=true->uI k (.slice p n c) L)/\k.heap[d.heap.size]?=some (.cells #[.bool j,.slice p n c] 215)):=⟨by rw[<-C];exact⟨B.1.1.trans ((iW d _).mono B.1.1.size),λh=>(B.1.2 h).below (iW d _),heap_alloc_new d _⟩⟩
 rw[C];clear C
 go_upto_region 3 with(go_at_call 153;refine(K.1 _).mono ?_;rintro e g ⟨P,m,o,q,rfl,Q⟩;have D:=ae (iJ P Q);clear P Q)
 obtain⟨b,E⟩:=iC (g.alloc (.cells #[.bool i,.slice m o q] 215))
 have a:PLift (Below w.heap.size w b/\(ok=true->uI b (.slice p n c) L)/\(is=true->uI b (.slice m o q) M)/\b.heap[d.heap.size]?=some (.cells #[.bool j,.slice p n c] 215)/\b.heap[g.heap.size]?=some (.cells #[.bool i,.slice m o q] 215)):=⟨by rw[<-E];have F:=D.1.1.trans ((iW g (.cells #[.bool i,.slice m o q] 215)).mono D.1.1.size);exact⟨l.1.1.trans (F.mono l.1.1.size),λh=>(l.1.2.1 h).below F,λh=>(D.1.2 h).below (iW g _),(F.block _ (Array.getElem?_eq_some_iff.1 l.1.2.2).1).trans l.1.2.2,heap_alloc_new g _⟩⟩
 rw[E];clear E;have R:=iK a.1.2.2.2.1 0 (.bool j);have S:=iK a.1.2.2.2.1 1 (.slice p n c);have T:=iK a.1.2.2.2.2 0 (.bool i);have U:=iK a.1.2.2.2.2 1 (.slice m o q);cases ok with
 |false=>go_wp2;go_ret;exact⟨by rw[f.1];rfl,a.1.1⟩
 |true=>
  cases is with
  |false=>go_wp2;go_ret;exact⟨by rw[f.1];rfl,a.1.1⟩
  |true=>
   cases j with
   |true=>
    cases i with
    |false=>go_wp2;go_ret;exact⟨by rw[f.1];rfl,a.1.1⟩
    |true=>
     have G:=ae (JI _ _ M L b (a.1.2.2.1 rfl) (a.1.2.1 rfl))
     go_wp2_with(go_at_call 191;refine G.1.mono ?_;rintro e w3 ⟨rfl,u⟩;have H:=ae u;clear u)
     go_ret;exact⟨by rw[f.1];rfl,a.1.1.trans (H.1.mono a.1.1.size)⟩
   |false=>
    cases i with
    |true=>go_wp2;go_ret;exact⟨by rw[f.1];rfl,a.1.1⟩
    |false=>
     have G:=ae (JI _ _ L M b (a.1.2.1 rfl) (a.1.2.2.1 rfl))
     go_wp2_with(go_at_call 191;refine G.1.mono ?_;rintro e w3 ⟨rfl,u⟩;have H:=ae u;clear u)
     go_ret;exact⟨by rw[f.1];rfl,a.1.1.trans (H.1.mono a.1.1.size)⟩
