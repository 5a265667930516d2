import Derived.Test.YthcalnnipjflkaaGreatDoorP22
import Derived.Maps.OwnOps
open Go.Lib renaming cell_of_heap -> ae, hid -> ag, frozen_of_heap -> aO, alloc_old -> aS, hasPrefix -> bV
open Option renaming none -> af, some -> ah, map_eq_some_iff -> bT
open Go renaming World -> aj, Value -> ay, bodyPost_ret -> aH, heap_alloc_new -> aP, Calls -> aU, wpList_lookup_own_ok -> aZ, toList_nil_iff_emptyBytes -> bH, wpQuiet_nil -> bQ, Ending -> dC, MemPlace -> dF
open Nat renaming le_refl -> au, zero_le -> bP, le_of_eq -> cu, le_trans -> di, succ_ne_zero -> dB
open Bool renaming false -> ax, true -> aJ
open Go.Proofs.Tryz renaming results15 -> az, prog -> aA, underlying9 -> aY, underlying41 -> bG, ntmps15 -> bZ, func15 -> dn, ntmps7 -> dw, func7 -> dD, ntmps42 -> dG, func42 -> dH
open Go.World.ownsRow renaming alloc -> aB, kept -> dI, lt -> dJ
open Go.RowKit renaming Below -> aC
open UInt8 renaming toNat_inj -> aI
open Go.RowKit.Below renaming refl -> aK
open List renaming length_drop -> aN, length_append -> aV, take_of_length_le -> aW, length -> aX, flatMap_append -> bu, drop_zero -> bz, setIfInBounds_toArray -> bC, getElem?_eq_some_iff -> bI, drop_eq_nil_of_le -> bJ, drop_drop -> bU, take_succ_cons -> bW, drop_succ_cons -> bY, set_cons_succ -> cZ, set_cons_zero -> dh, flatMap_cons -> dm, take_zero -> dE
open Array renaming getElem?_eq_some_iff -> aQ, eq_empty_of_size_eq_zero -> bn, toList_inj -> dA
open ByteArray renaming data_extract -> aT
open Option.some renaming injEq -> bD
open Go.Maps renaming string_keyed -> bF
open Go.World renaming drewN -> bK
set_option linter.all false
set_option maxHeartbeats 4000000
set_option maxRecDepth 100000
namespace Go.Proofs.YthcalnnipjflkaaGreatDoor
open Go.RowKit
open Go.Lib hiding intOf
def nz (j:Nat):Bool:=j==12
theorem RQ {v:List ay}{x op b n c:DataW Unit}{ps:List dF}(h:yD v=ah (.agg [op,b,n,c,x],ps)):∃a b' n' d m,v=[.int .i64 a,.slice (ah ⟨b',0,af⟩) n' d,.bool m]/\op=.lit (.int .i64 a)/\b=.lit (.int .i64 (b':Int))/\n=.lit (.int .i64 (n':Int))/\c=.lit (.int .i64 (d:Int))/\x=.lit (.bool m):=by
 unfold yD at h;split at h
 ·rename_i a b' o sp n' d m
  split at h
  ·rename_i hc
   obtain⟨rfl,e⟩:=hc;obtain rfl:sp=af:=by simpa using e
   simp only[bD,Prod.mk.injEq,DataW.agg.injEq,List.cons.injEq,and_true]at h;obtain⟨⟨f,e,g,i,j⟩,-⟩:=h;exact⟨a,b',n',d,m,rfl,f.symm,e.symm,g.symm,i.symm,j.symm⟩
  ·cases h
 ·split at h
  ·simp at h
  ·cases h
 ·cases h
theorem I9 {a:Nat}{v:ay}{ps:List dF}{j:Nat}(p:j<15)(h:qL (H:=Unit) v=ah (mQ a j,ps)):v=.agg #[.int .i64 (jC j),.slice (ah ⟨a+5+j,0,af⟩) (jc j).length (jc j).length,.bool (nz j)]:=by
 cases v with
 |agg c=>
  have d:yD c.toList=ah (mQ a j,ps):=h
  have key:∀(op:Int) (b:Nat) (n:Nat) (m:Bool),mQ (H:=Unit) a j=.agg [.lit (.int .i64 op),.lit (.int .i64 (b:Int)),.lit (.int .i64 (n:Int)),.lit (.int .i64 (n:Int)),.lit (.bool m)]->Value.agg c=.agg #[.int .i64 op,.slice (ah ⟨b,0,af⟩) n n,.bool m]:=by
   intro op b n m e;rw[e]at d;obtain⟨q,b',n',r,m',o,f,g,i,k,l⟩:=RQ d;simp only[DataW.lit.injEq,Lit.int.injEq,true_and,Lit.bool.injEq,Int.ofNat_inj]at f g i k l;subst f g i k l
   congr 1
   apply dA.1;exact o
  rcases j with _|_|_|_|_|_|_|_|_|_|_|_|_|_|_|j
  case succ=>omega
  all_goals exact key _ _ _ _ rfl
 |_=>cases h
def jQ (pp:List UInt8->Bool)(l:List UInt8):List AK->Nat->Cx->Option Cx×Int
 |[],a,c=>if a<l.length then(af,a)else(ah c,-1)
 |K::b,a,c=>if a=l.length then(af,a)else if l.getD a 0≠32 then(af,a)else if a+1=l.length then(af,(a:Int)+1)
  else if oV pp K (l.drop (a+1))then jQ pp l b (a+1+(ny pp K (l.drop (a+1))).toNat) (kY pp K (l.drop (a+1)) c)else(af,(a:Int)+1)
def nP (pp:List UInt8->Bool)(l:List UInt8):List AK->Nat->Prop
 |[],_=>True
 |K::b,a=>a<l.length->l.getD a 0=32->a+1<l.length->(K=.p->qK (lX (l.drop (a+1))) (pp (lX (l.drop (a+1)))))/\(oV pp K (l.drop (a+1))=aJ->nP pp l b (a+1+(ny pp K (l.drop (a+1))).toNat))
theorem RS (l:List UInt8):∀p,uq l=ah p->p.2.length<=l.length:=by
 induction hn:l.length using Nat.strongRecOn generalizing l with
 |_ n a=>
  intro p hp
  have go:∀(r:List UInt8) (f:List UInt8×List UInt8->List UInt8×List UInt8),(∀q,(f q).2 =q.2)->r.length<n->(uq r).map f=ah p->p.2.length<=n:=by
   intro r f hf hr he;cases h:uq r with
   |none=>rw[h]at he;cases he
   |some q=>
    rw[h]at he;obtain rfl:f q=p:=by simpa using he
    rw[hf];have:=a _ hr r rfl q h;omega
  cases l with
  |nil=>cases hp
  |cons c r=>
   subst hn;unfold uq at hp;split at hp
   ·obtain rfl:=Option.some.inj hp;simp
   split at hp
   ·cases hp
   split at hp
   ·exact go r (λp=>(_::p.1,p.2)) (λ_=>rfl) iH hp
   split at hp
   ·cases hp
   rename_i e r2;split at hp
   ·exact go r2 (λp=>(_::p.1,p.2)) (λ_=>rfl) iI hp
   split at hp
   ·exact go r2 (λp=>(_::p.1,p.2)) (λ_=>rfl) iI hp
   split at hp
   ·exact go r2 (λp=>(_::p.1,p.2)) (λ_=>rfl) iI hp
   split at hp
   ·exact go r2 (λp=>(_::p.1,p.2)) (λ_=>rfl) iI hp
   split at hp
   ·split at hp
    ·split at hp
     ·cases hp
     ·exact go _ (λp=>(_::p.1,p.2)) (λ_=>rfl) iI hp
    ·cases hp
   ·cases hp
theorem RU (l:List UInt8):0<=sK l/\sK l<=l.length:=by
 unfold sK;cases h:rE l with
 |none=>simp
 |some p=>
  unfold rE at h;split at h
  ·have:=RS _ p h
   rw[aN]at this;simp only;omega
  ·cases h
theorem zK (pp:List UInt8->Bool)(K:AK)(r:List UInt8):0<=ny pp K r/\ny pp K r<=r.length:=by
 have b:=qE 32 r;have a:=RU r;cases K<;>simp only[ny]
 ·omega
 ·split<;>omega
 ·split<;>omega
 ·exact a
def Ja (B:Nat)(op:Int)(r:Option Cx×Int)(e:dC)(w':aj):Prop:=
 ∃a b d f g h tx,e=.returned (.tuple #[.agg #[.int .i64 op,.slice a b d,.slice f g h,.string tx],.int .i64 r.2])/\∀c,r.1 =ah c->tx=c.tx/\qc B (.slice a b d) c.ns w'/\qg B (.slice f g h) c.fs w'
theorem BP (s:ByteArray)(n:Nat):s.extract 0 n=⟨(s.data.toList.take n).toArray⟩:=ext_list (by simp[aT])
theorem ED (w:aj):(zeroValue 69).run aA w=.ok (.agg #[.int .i64 0,.slice af 0 0,.bool ax]) w:=iF
theorem zL {j:Nat}(a:j<15):(jc j).length<=4:=by
 rcases j with _|_|_|_|_|_|_|_|_|_|_|_|_|_|_|j
 case succ=>omega
 all_goals decide
theorem sU {w:aj}{B e n:Nat}{v:ay}{xs:List ay}(h:w.ownsRow B e 1 v n xs):∃a k c,v=.slice a k c:=by
 rcases h.2 with⟨rfl,_⟩|⟨g,cap,b,rfl,_⟩
 ·exact⟨_,_,_,rfl⟩
 ·exact⟨_,_,_,rfl⟩
structure xw (pp:List UInt8->Bool)(l:List UInt8)(w:aj)(FB j L:Nat)(wr:aj)(k a:Nat)(cx:Cx):Prop where
 hk:k<=(jc j).length
 ha:a<=l.length
 below:aC w.heap.size w wr
 res:wr.heap[w.heap.size]?=ah (cmd 0 (.slice af 0 0) (.slice af 0 0) ⟨#[]⟩)
 og:wr.heap[w.heap.size+1]?=ah (.cells #[.int .i64 (jC j),.slice (ah ⟨FB+5+j,0,af⟩) (jc j).length (jc j).length,.bool (nz j)] 69)
 cm:zJ w.heap.size (w.heap.size+1+1) (jC j) cx wr
 eq:jQ pp l (jc j) L ⟨[],[],⟨#[]⟩⟩=jQ pp l ((jc j).drop k) a cx
 ok:nP pp l ((jc j).drop k) a
 ln:cx.ns.length<=k
 lf:cx.fs.length<=k
theorem xw.at_end {pp:List UInt8->Bool}{l:List UInt8}{w:aj}{c j L:Nat}{wr:aj}{k a:Nat}{b:Cx}(h:xw pp l w c j L wr k a b)(hk:(jc j).length<=k):
  jQ pp l (jc j) L ⟨[],[],⟨#[]⟩⟩=if a<l.length then(af,(a:Int))else(ah b,-1):=by
 rw[h.eq,bJ hk];rfl
theorem RV (pp:List UInt8->Bool)(l:List UInt8)(w:aj)(a j L n:Nat)(b:L<=l.length)(c:nP pp l (jc j) L):
  xw pp l w a j L ((((w.alloc (cmd 0 (.slice af 0 0) (.slice af 0 0) ⟨#[]⟩)).drewN n).alloc (.cells #[.int .i64 (jC j),.slice (ah ⟨a+5+j,0,af⟩) (jc j).length (jc j).length,.bool (nz j)] 69)).alloc (cmd (jC j) (.slice af 0 0) (.slice af 0 0) ⟨#[]⟩)) 0 L ⟨[],[],⟨#[]⟩⟩:=by
 have d:((w.alloc (cmd 0 (.slice af 0 0) (.slice af 0 0) ⟨#[]⟩)).drewN n).heap.size=w.heap.size+1:=by simp[bK]
 have e:(((w.alloc (cmd 0 (.slice af 0 0) (.slice af 0 0) ⟨#[]⟩)).drewN n).alloc (.cells #[.int .i64 (jC j),.slice (ah ⟨a+5+j,0,af⟩) (jc j).length (jc j).length,.bool (nz j)] 69)).heap.size=w.heap.size+1+1:=by simp[bK]
 refine⟨bP _,b,?_,?_,?_,⟨.slice af 0 0,.slice af 0 0,iE,?_,⟨rfl,.inl ⟨rfl,rfl⟩⟩,⟨rfl,.inl ⟨rfl,rfl⟩⟩⟩,rfl,c,au _,au _⟩
 ·exact((((aK _ w).alloc (au _) _).trans (below_drewN _ _ _)).alloc iE _).alloc iE _
 ·rw[aS _ _ _ iE,aS _ _ _ iE]
  exact aP w _
 ·rw[aS _ _ _ iE,<-d]
  exact aP _ _
 ·rw[<-e]
  exact aP _ _
theorem BQ {w:aj}{B e n b k:Nat}{v u:ay}{xs:List ay}{a:Array ay}{T:TypeId}{c:Nat×Nat}(h:w.ownsRow B e 1 v n xs)(d:w.heap[b]?=ah (.cells a T c))(f:T≠e):(w.setCell ⟨b,k,af⟩ u).ownsRow B e 1 v n xs:=
 dI h (row:=ah b) ⟨rfl,rfl,rfl,by simp[World.setCell],λi _ hi=>Below.heap_setCell _ _ _ _ (λe=>hi (by simp[e]))⟩ (.inr (Lib.ownBlock_ne h d f))
def stored (wr:aj)(b:Nat)(v0 v1 v2 a:ay):aj:=(((wr.setCell ⟨b,0,af⟩ v0).setCell ⟨b,1,af⟩ v1).setCell ⟨b,2,af⟩ v2).setCell ⟨b,3,af⟩ a
theorem BR {w:aj}{B e n b:Nat}{v v0 v1 v2 d:ay}{xs:List ay}{f:Array ay}{T:TypeId}{g:Nat×Nat}(h:w.ownsRow B e 1 v n xs)(a:w.heap[b]?=ah (.cells f T g))(c:T≠e):(stored w b v0 v1 v2 d).ownsRow B e 1 v n xs:=
 BQ (BQ (BQ (BQ h a c) (tZ a _) c) (tZ (tZ a _) _) c) (tZ (tZ (tZ a _) _) _) c
theorem oh {w wr:aj}{B b:Nat}(h:aC B w wr)(a:B<=b)(v0 v1 v2 c:ay):aC B w (stored wr b v0 v1 v2 c):=
 (((h.setCell (p:=⟨b,0,af⟩) a _).setCell (p:=⟨b,1,af⟩) a _).setCell (p:=⟨b,2,af⟩) a _).setCell (p:=⟨b,3,af⟩) a _
theorem xw.BU {pp:List UInt8->Bool}{l:List UInt8}{w:aj}{c j L:Nat}{wr:aj}{k a:Nat}{b:Cx}(h:xw pp l w c j L wr k a b)(hk:k<(jc j).length):
  jQ pp l (jc j) L ⟨[],[],⟨#[]⟩⟩=jQ pp l ((jc j)[k]::(jc j).drop (k+1)) a b/\nP pp l ((jc j)[k]::(jc j).drop (k+1)) a:=by
 rw[h.eq];have:=h.ok;rw[List.drop_eq_getElem_cons hk]at this⊢;exact⟨rfl,this⟩
theorem zM (pp:List UInt8->Bool)(l:List UInt8)(K:AK)(b:List AK)(a:Nat)(c:Cx):jQ pp l (K::b) a c=(if a=l.length then((af:Option Cx),(a:Int))else if l.getD a 0≠32 then((af:Option Cx),(a:Int))else if a+1=l.length then((af:Option Cx),(a:Int)+1)else if oV pp K (l.drop (a+1))then jQ pp l b (a+1+(ny pp K (l.drop (a+1))).toNat) (kY pp K (l.drop (a+1)) c)else((af:Option Cx),(a:Int)+1)):=rfl
theorem EE (pp:List UInt8->Bool)(K:AK)(r:List UInt8)(c:Cx):(kY pp K r c).ns.length<=c.ns.length+1/\(kY pp K r c).fs.length<=c.fs.length+1:=by
 cases K<;>simp only[kY]
 ·simp
 ·split<;>simp
 ·split<;>simp
 ·simp
theorem EF (l:List UInt8)(h:l.length<=maxLen):keyOf aA 9 (.string ⟨l.toArray⟩)=ah (.string l):=by
 have:(⟨l.toArray⟩:ByteArray).size<=maxLen:=by simpa[ByteArray.size]using h
 simp[keyOf,mapKey,aY,this]
theorem RX (pp:List UInt8->Bool)(s:ByteArray)(w:aj)(m j:Nat)(hF:Forms m w)(Z:Env w)(hs:s.size<=35184372088000)(G:wu (iV 32 s.data.toList)=ah j)(a3:j≠12)(aa:nP pp s.data.toList (jc j) (iV 32 s.data.toList).length)
  (ab:0<w.heap.size/\1<w.heap.size/\2<w.heap.size):
  aU aA 15 #[.string s,.map (ah (m+4))] w λe w'=>aC w.heap.size w w'/\Ja w.heap.size (jC j) (jQ pp s.data.toList (jc j) (iV 32 s.data.toList).length ⟨[],[],⟨#[]⟩⟩) e w':=by
 have z:=(BO G).1;have hcut:=qE 32 s.data.toList;have I:s.data.toList.length=s.size:=iH
 have a4:s.extract 0 (iV 32 s.data.toList).length=⟨(iV 32 s.data.toList).toArray⟩:=by rw[BP,zf]
 have ac:=BN (H:=Unit) m (iV 32 s.data.toList) (.agg [.lit (.int .i64 0),.lit (.bool ax)]) 15;have ad:sQ (iV 32 s.data.toList) 15=ah j:=G;rw[ad]at ac;obtain⟨ai,ak⟩:=ac;have a5:Hid (s.size<=maxLen):=by show s.size<=maxLen;unfold maxLen;omega
 have a6:Hid ((iV 32 s.data.toList).length<=maxLen):=by show(iV 32 s.data.toList).length<=maxLen;unfold maxLen;omega
 have E:=ag hF;have a7:=ag Z;have a8:=ag aa;have a9:=ag ai;have HAS:=ag ak;have J:=ag ab;generalize ba:(iV 32 s.data.toList).length=L at*;have bv:(L:Int)<=s.size:=iE
 clear hF Z aa ai ak ab G ad;go_enter dn,bZ;have bb:=ag (EF (iV 32 s.data.toList) (by rw[ba];exact a6.out))
 go_wp2_with(first
  |(go_at_call 31;refine(zg _ _ a5.out).mono ?_;rintro e bw ⟨rfl,n,rfl⟩)
  |(at_lookup;refine aZ _ rfl _ _ 41 rfl 9 69 (bF aY) bG qL (ED _) (.agg [.lit (.int .i64 0),.lit (.bool ax)]) [] rfl (m+4) 15 (qM m 15) rfl (E.out.own.alloc _) _ _ rfl bb.out ?_))
 intro v ps hv;rw[a9.out]at hv;obtain rfl:=I9 z hv;rw[HAS.out];clear hv;go_wp2
 go_loopw [6,10] (λat_ i wr=>∃(k a:Nat) (p:Cx),i=.int .i64 k/\at_=.int .i64 a/\xw pp s.data.toList w m j L wr k a p) (λ_ i _=>(jc j).length - (intOf i).toNat)
 case atStart=>exact⟨0,L,⟨[],[],⟨#[]⟩⟩,rfl,rfl,RV pp s.data.toList w m j L n hcut a8.out⟩
 case round=>
  obtain⟨k,a,p,rfl,rfl,hinv⟩:=hrel;have hm:nz j=ax:=by unfold nz;simpa using a3
  obtain⟨M,O,g⟩:=hinv.cm;obtain⟨na,r,t,rfl⟩:=sU g.names;obtain⟨u,fn,x,rfl⟩:=sU g.fmts;have al:=iK g.blk 0 (.int .i64 (jC j));have am:=iK g.blk 1 (.slice na r t);have an:=iK g.blk 2 (.slice u fn x);have ao:=iK g.blk 3 (.string p.tx);have ap:=iK hinv.res 0 (.int .i64 0);have r1:=iK hinv.res 1 (.slice af 0 0);have r2:=iK hinv.res 2 (.slice af 0 0);have aq:=iK hinv.res 3 (.string ⟨#[]⟩);have ar:∀o,wr.frozen? ⟨w.heap.size,o,af⟩=ax:=λo=>aO hinv.res o
  have bc:=iK hinv.og 0 (.int .i64 (jC j));have av:=iK hinv.og 1 (.slice (ah ⟨m+5+j,0,af⟩) (jc j).length (jc j).length);have bd:=iK hinv.og 2 (.bool (nz j));have d:=ag hinv;have aw:=ag g;have bx:=hinv.hk;have be:=hinv.ha;rw[I]at be;clear hinv g a4;by_cases P:k<(jc j).length
  ·have bf:(k:Int)<((jc j).length:Int):=iE
   obtain⟨l,q⟩:=d.out.BU P;generalize hK:(jc j)[k]=K at l q;by_cases ha:a=s.size
   ·have f:Hid (jQ pp s.data.toList (jc j) L ⟨[],[],⟨#[]⟩⟩=(af,(a:Int))):=by
     show _=_;rw[l];unfold jQ;rw[gY iE]
    have e1:((a:Int)==(s.size:Int))=aJ:=iI;clear l q ha hK;go_wp2;refine aH (v:=.tuple #[.agg #[.int .i64 (jC j),.slice na r t,.slice u fn x,.string p.tx],.int .i64 a]) (by simp only[results,az];go_simp) rfl ⟨oh d.out.below (au _) _ _ _ _,_,_,_,_,_,_,_,by rw[f.out],λc hc=>by rw[f.out]at hc;cases hc⟩
   have e1:((a:Int)==(s.size:Int))=ax:=iI;have bA:(a:Int)<s.size:=iE;have Q:a<s.size:=iE;have A:s.data.toList.getD a 0=s[a]:=lC s a Q;by_cases hc:s[a]=32
   ·have e3:((s[a].toNat:Int)!=32)=ax:=by rw[hc];rfl
    by_cases bg:a+1=s.size
    ·have f:Hid (jQ pp s.data.toList (jc j) L ⟨[],[],⟨#[]⟩⟩=(af,(a:Int)+1)):=by
      show _=_;rw[l];unfold jQ;rw[gZ iE,gZ (by rw[A];simpa using hc),gY iE]
     have bh:((a:Int)+1==(s.size:Int))=aJ:=iI;clear l q ha hK hc A;go_wp2;refine aH (v:=.tuple #[.agg #[.int .i64 (jC j),.slice na r t,.slice u fn x,.string p.tx],.int .i64 ((a:Int)+1)]) (by simp only[results,az];go_simp) rfl ⟨oh d.out.below (au _) _ _ _ _,_,_,_,_,_,_,_,by rw[f.out],λc hc=>by rw[f.out]at hc;cases hc⟩
    ·have R:a+1<s.size:=iE
     have bh:((a:Int)+1==(s.size:Int))=ax:=iI;have S:=Ez z P;rw[hK]at S;have aD:Hid (w.heap[m+5+j]?=ah (.cells (rG j) 66)):=E.out.rows j z;have bi:=ag S;have U:=ag (iJ l q);have bj:=ag R;clear l q S ha hK hc A bg R;go_wp2;have R:=bj.out;have e5:(a:Int)+1<=s.size:=iE;have e6:((a:Int)+1).toNat=a+1:=iE;have e7:(0:Int)<=(a:Int)+1:=iE;have bB:min (k:Int) (((jc j).length:Int) - 1)=k:=iE;have aE:(jc j).length<=4:=zL z;have bE:IntKind.i64.wrap (((jc j).length:Int) - 1)=((jc j).length:Int) - 1:=IntWalk.i64_in _ iE;have bL:(0:Int)<=k:=iE;clear aE
     refine Mix.Ec (aF:=?_) (aG:=?_) 14 5 _ (λW=>W.heap[w.heap.size+1]?=ah (.cells #[.int .i64 (jC j),.slice (ah ⟨m+5+j,0,af⟩) (jc j).length (jc j).length,.bool (nz j)] 69)/\W.heap[m+5+j]?=ah (.cells (rG j) 66))
      (After pp s.data.toList w wr m j (kY pp K (s.data.toList.drop (a+1)) p)) (.tuple #[.int .i64 (ny pp K (s.data.toList.drop (a+1))),.bool (oV pp K (s.data.toList.drop (a+1)))]) (sS K) #[.pointer (ah ⟨w.heap.size+1+1,0,af⟩),.string (s.extract (a+1) s.size)]
      iF rfl iF iF iF rfl rfl iF iF iF iF ?_ ?_ ?_ ?_ ?_ ?_ ?_ ?_ ?_
     rotate_left 2
     ·intro F
      exact⟨d.out.og,(d.out.below.block _ (by have:=E.out.lt;omega)).trans aD.out⟩
     ·intro W F h;exact h.drewN F
     ·intro W h
      exact⟨h.keep _ _ _ _ d.out.og iE iG iG,(h.below.block _ (by have:=E.out.lt;omega)).trans aD.out⟩
     ·rintro ρ ⟨aL,aM⟩
      have av:=iK aL 1 (.slice (ah ⟨m+5+j,0,af⟩) (jc j).length (jc j).length)
      have g1:ρ.cell? ⟨m+5+j,k*2,af⟩=ah (.func (.func (sS K)) #[] #[]):=by rw[Nat.mul_comm];exact(ae aM (2*k)).trans bi.out
      clear aL aM;simp only[bW,dE]
      repeat(go_big_quiet_step(fail))
      apply bQ;exact rfl
     ·rfl
     ·intro W
      go_simp;exact EC K _ W
     ·intro F
      have V:(s.extract (a+1) s.size).data.toList=s.data.toList.drop (a+1):=by simp[aT];exact aW (cu (by rw[aN,I]))
      obtain⟨M,O,B⟩:=d.out.cm;have aE:=zL z;have bM:=d.out.ln;have bN:=d.out.lf
      have C:s.data.toList.getD a 0=32:=by rw[lC s a Q];have e:((s[a].toNat:Int)!=32)=ax:=e3;simp only[bne_eq_false_iff_eq]at e;exact aI.1 (by have e:(32:UInt8).toNat=32:=rfl;omega)
      have aR:=U.out.2 iE C iE;refine(Ey pp K (s.extract (a+1) s.size) (wr.drewN F) w.heap.size (w.heap.size+1+1) (jC j) p ⟨M,O,B.base,B.blk,B.names,B.fmts⟩ d.out.below.size iI (a7.out.below' (d.out.below.trans (below_drewN _ _ _)) J.out.1 J.out.2.1 J.out.2.2) iE iE (λhp _=>?_) (λhp _=>?_)).mono ?_
      ·rw[V];exact aR.1 hp
      ·rw[V];exact⟨_,aR.1 hp⟩
      ·rintro e W ⟨v,rfl,rfl,a0,bk,a1⟩
       rw[V]at a1⊢;exact⟨rfl,d.out.below.trans ((below_drewN _ _ _).trans a0),λb bl T bm bo bp bq br=>bk b bl T bm bo bp bq br,a1⟩
     ·intro ρ
      simp only[bY,bz,Act.put,bC,cZ,dh]
      repeat(go_big_quiet_step(fail))
      apply bQ;exact rfl
     ·intro W y
      have hcut:=zK pp K (s.data.toList.drop (a+1));rw[aN,I]at hcut;obtain⟨N,X⟩:=Int.eq_ofNat_of_zero_le hcut.1;have bO:a+1+N<=s.size:=iE
      have C:s.data.toList.getD a 0=32:=by rw[lC s a Q];have e:((s[a].toNat:Int)!=32)=ax:=e3;simp only[bne_eq_false_iff_eq]at e;exact aI.1 (by have e:(32:UInt8).toNat=32:=rfl;omega)
      have l:=U.out.1;have q:=(U.out.2 iE C iE).2;rw[zM,gZ iE,gZ (by simpa using C),gZ iE,X]at l;rw[X]at q⊢;clear hcut X C;have g0:W.heap[w.heap.size]?=ah (cmd 0 (.slice af 0 0) (.slice af 0 0) ⟨#[]⟩):=y.keep _ _ _ _ d.out.res iE iG iG;have g2:W.heap[w.heap.size+1]?=ah (.cells #[.int .i64 (jC j),.slice (ah ⟨m+5+j,0,af⟩) (jc j).length (jc j).length,.bool (nz j)] 69):=y.keep _ _ _ _ d.out.og iE iG iG;cases D:oV pp K (s.data.toList.drop (a+1))
      ·rw[gZ (by rw[D];decide)]at l
       obtain⟨M,O,g⟩:=y.cm;obtain⟨na,r,t,rfl⟩:=sU g.names;obtain⟨u,fn,x,rfl⟩:=sU g.fmts;generalize kY pp K (s.data.toList.drop (a+1)) p=a2 at y g;clear al am an ao ap r1 r2 aq ar bc av bd q D;have al:=iK g.blk 0 (.int .i64 (jC j));have am:=iK g.blk 1 (.slice na r t);have an:=iK g.blk 2 (.slice u fn x);have ao:=iK g.blk 3 (.string a2.tx);have ap:=iK g0 0 (.int .i64 0);have r1:=iK g0 1 (.slice af 0 0);have r2:=iK g0 2 (.slice af 0 0);have aq:=iK g0 3 (.string ⟨#[]⟩);have ar:∀o,W.frozen? ⟨w.heap.size,o,af⟩=ax:=λo=>aO g0 o
       have bs:=ag y;have f:=ag l;clear y g g0 g2 l;go_wp2;refine aH (v:=.tuple #[.agg #[.int .i64 (jC j),.slice na r t,.slice u fn x,.string a2.tx],.int .i64 ((a:Int)+1)]) (by simp only[results,az];go_simp) rfl ⟨oh bs.out.below (au _) _ _ _ _,_,_,_,_,_,_,_,by rw[f.out],λc hc=>by rw[f.out]at hc;cases hc⟩
      ·rw[gY D]at l
       have Y:(kY pp K (s.data.toList.drop (a+1)) p).ns.length<=k+1/\(kY pp K (s.data.toList.drop (a+1)) p).fs.length<=k+1:=by have bR:=EE pp K (s.data.toList.drop (a+1)) p;have a0:=d.out.ln;have B:=d.out.lf;exact⟨iE,iE⟩
       have bS:(k:Int)<=4:=(by have:=zL z;omega);have bt:Hid (xw pp s.data.toList w m j L W (k+1) (a+1+N) (kY pp K (s.data.toList.drop (a+1)) p)):=⟨P,iE,y.below,g0,g2,y.cm,l,q D,Y.1,Y.2⟩;clear y g0 g2 l q Y D;go_wp2;go_roundw
       case rel=>exact⟨k+1,a+1+N,_,ig _ iE,ig _ iE,bt.out⟩
       case measure=>show(jc j).length - ((k:Int)+1).toNat<(jc j).length - (k:Int).toNat;omega
   ·have f:Hid (jQ pp s.data.toList (jc j) L ⟨[],[],⟨#[]⟩⟩=(af,(a:Int))):=by
     show _=_;rw[l];unfold jQ;rw[gZ iE,gY (by rw[A];simpa using hc)]
    have e3:((s[a].toNat:Int)!=32)=aJ:=by simp only[bne_iff_ne,ne_eq];exact λe=>hc (aI.1 (by have e:(32:UInt8).toNat=32:=rfl;omega))
    clear l q ha hK hc A;go_wp2;refine aH (v:=.tuple #[.agg #[.int .i64 (jC j),.slice na r t,.slice u fn x,.string p.tx],.int .i64 a]) (by simp only[results,az];go_simp) rfl ⟨oh d.out.below (au _) _ _ _ _,_,_,_,_,_,_,_,by rw[f.out],λc hc=>by rw[f.out]at hc;cases hc⟩
  ·have bf:((k:Int)<((jc j).length:Int))=False:=iI
   have f:=ag (d.out.at_end iE);by_cases ha:a<s.size
   ·rw[gY iE]at f
    have e1:(a:Int)<s.size:=iE;go_wp2;refine aH (v:=.tuple #[.agg #[.int .i64 (jC j),.slice na r t,.slice u fn x,.string p.tx],.int .i64 a]) (by simp only[results,az];go_simp) rfl ⟨oh d.out.below (au _) _ _ _ _,_,_,_,_,_,_,_,by rw[f.out],λc hc=>by rw[f.out]at hc;cases hc⟩
   ·rw[gZ iE]at f
    have e1:¬(a:Int)<s.size:=iE;go_wp2;refine aH (v:=.tuple #[.agg #[.int .i64 (jC j),.slice na r t,.slice u fn x,.string p.tx],.int .i64 (-1)]) (by simp only[results,az];go_simp) rfl ⟨oh d.out.below (au _) _ _ _ _,_,_,_,_,_,_,_,by rw[f.out],λc hc=>?_⟩;rw[f.out]at hc;obtain rfl:p=c:=by simpa using hc
    exact⟨rfl,BR aw.out.names d.out.res iG,BR aw.out.fmts d.out.res iG⟩
theorem RY {v:ay}{ps:List dF}(h:qL (H:=Unit) v=ah (.agg [.lit (.int .i64 0),.lit (.bool ax)],ps)):v=.agg #[.int .i64 0,.slice af 0 0,.bool ax]:=by
 cases v with
 |agg b=>
  have a:yD (H:=Unit) b.toList=ah (.agg [.lit (.int .i64 0),.lit (.bool ax)],ps):=h;unfold yD at a;split at a
  ·split at a<;>simp at a
  ·rename_i op n c m d
   split at a
   ·rename_i hc
    obtain⟨rfl,rfl⟩:=hc;simp only[bD,Prod.mk.injEq,DataW.agg.injEq,List.cons.injEq,and_true,DataW.lit.injEq,Lit.int.injEq,true_and,Lit.bool.injEq]at a;obtain⟨⟨rfl,rfl⟩,-⟩:=a
    congr 1
    apply dA.1;exact d
   ·cases a
  ·cases a
 |_=>cases h
theorem RZ (s:ByteArray)(w:aj)(a:Nat)(hF:Forms a w)(hs:s.size<=35184372088000)(b:wu (iV 32 s.data.toList)=af):
  aU aA 15 #[.string s,.map (ah (a+4))] w λe w'=>aC w.heap.size w w'/\e=.returned (.tuple #[.agg #[.int .i64 0,.slice af 0 0,.slice af 0 0,.string ⟨#[]⟩],.int .i64 0]):=by
 have hcut:=qE 32 s.data.toList;have p:s.data.toList.length=s.size:=iH
 have q:s.extract 0 (iV 32 s.data.toList).length=⟨(iV 32 s.data.toList).toArray⟩:=by rw[BP,zf]
 have c:=BN (H:=Unit) a (iV 32 s.data.toList) (.agg [.lit (.int .i64 0),.lit (.bool ax)]) 15;have d:sQ (iV 32 s.data.toList) 15=af:=b;rw[d]at c;obtain⟨f,g⟩:=c;have i:Hid (s.size<=maxLen):=by show s.size<=maxLen;unfold maxLen;omega
 have j:Hid ((iV 32 s.data.toList).length<=maxLen):=by show(iV 32 s.data.toList).length<=maxLen;unfold maxLen;omega
 have k:=ag hF;have l:=ag f;have HAS:=ag g;generalize m:(iV 32 s.data.toList).length=L at*;have r:(L:Int)<=s.size:=iE
 clear hF f g b d;go_enter dn,bZ;have o:=ag (EF (iV 32 s.data.toList) (by rw[m];exact j.out))
 go_wp2_with(first
  |(go_at_call 31;refine(zg _ _ i.out).mono ?_;rintro e t ⟨rfl,n,rfl⟩)
  |(at_lookup;refine aZ _ rfl _ _ 41 rfl 9 69 (bF aY) bG qL (ED _) (.agg [.lit (.int .i64 0),.lit (.bool ax)]) [] rfl (a+4) 15 (qM a 15) rfl (k.out.own.alloc _) _ _ rfl o.out ?_))
 intro v ps hv;rw[l.out]at hv;obtain rfl:=RY hv;rw[HAS.out];clear hv;go_wp2;have h:=oh (((aK w.heap.size w).alloc (au _) (.cells #[.int .i64 0,.slice af 0 0,.slice af 0 0,.string ⟨#[]⟩] 38)).trans (below_drewN _ _ n)) (au _) (.int .i64 0) (.slice af 0 0) (.slice af 0 0) (.string ⟨#[]⟩);refine aH (v:=.tuple #[.agg #[.int .i64 0,.slice af 0 0,.slice af 0 0,.string ⟨#[]⟩],.int .i64 0]) (by simp only[results,az];go_simp) rfl ⟨h.alloc h.size _,rfl⟩
def zN (l:List UInt8):Nat->Nat->Nat
 |0,_=>0
 |f+1,a=>if a<l.length then zN l f (a+1+(iV 32 (l.drop (a+1))).length)+1 else 0
def wB (l:List UInt8)(f a:Nat):List AK:=List.replicate (zN l f a) .n
def oq (l:List UInt8)(a:Nat):List AK:=.n::wB l 63 (a+1+(iV 32 (l.drop (a+1))).length)
def wC (l:List UInt8)(L k a:Nat):List AK:=if k=0 then oq l L else wB l (64 - k) a
theorem BV (l:List UInt8)(L k a:Nat):wC l L (k+1) a=wB l (63 - k) a:=by
 unfold wC;rw[gZ (dB k)]
 congr 1
 omega
theorem Si (l:List UInt8)(L k a:Nat)(c:k=0->a=L)(h:k=0\/(a<l.length/\k<64)):wC l L k a=.n::wB l (63 - k) (a+1+(iV 32 (l.drop (a+1))).length):=by
 by_cases b:k=0
 ·subst b
  obtain rfl:=c rfl
  rfl
 ·obtain⟨d,e⟩:=h.resolve_left b
  unfold wC;rw[gZ b];obtain⟨f,hf⟩:∃f,64 - k=f+1:=⟨63 - k,iE⟩;have:63 - k=f:=iE
  rw[hf,this];unfold wB
  conv=>lhs;unfold zN
  rw[gY d]
  rfl
theorem Sj (l:List UInt8)(L k a:Nat)(c:0<k)(h:¬(a<l.length/\k<64)):wC l L k a=[]:=by
 unfold wC;rw[gZ iE];unfold wB
 have:zN l (64 - k) a=0:=by
  cases hf:64 - k with
  |zero=>rfl
  |succ f=>unfold zN;exact gZ (λb=>h ⟨b,iE⟩)
 rw[this]
 rfl
theorem Sl (k a n:Nat):k=0\/(0<k/\a<n/\k<64)\/(0<k/\¬(a<n/\k<64)):=iE
structure wE (pp:List UInt8->Bool)(l:List UInt8)(w:aj)(FB j L:Nat)(wr:aj)(k a:Nat)(cx:Cx):Prop where
 hk:k<=64
 h0:k=0->a=L
 ha:a<=l.length
 below:aC w.heap.size w wr
 res:wr.heap[w.heap.size]?=ah (cmd 0 (.slice af 0 0) (.slice af 0 0) ⟨#[]⟩)
 og:wr.heap[w.heap.size+1]?=ah (.cells #[.int .i64 (jC j),.slice (ah ⟨FB+5+j,0,af⟩) (jc j).length (jc j).length,.bool (nz j)] 69)
 cm:zJ w.heap.size (w.heap.size+1+1) (jC j) cx wr
 eq:jQ pp l (oq l L) L ⟨[],[],⟨#[]⟩⟩=jQ pp l (wC l L k a) a cx
 ok:nP pp l (wC l L k a) a
 ln:cx.ns.length<=k
 lf:cx.fs.length<=k
theorem wE.at_end {pp:List UInt8->Bool}{l:List UInt8}{w:aj}{c j L:Nat}{wr:aj}{k a:Nat}{b:Cx}(h:wE pp l w c j L wr k a b)(hk:0<k)(he:¬(a<l.length/\k<64)):
  jQ pp l (oq l L) L ⟨[],[],⟨#[]⟩⟩=if a<l.length then(af,(a:Int))else(ah b,-1):=by
 rw[h.eq,Sj l L k a hk he];rfl
theorem wE.BU {pp:List UInt8->Bool}{l:List UInt8}{w:aj}{c j L:Nat}{wr:aj}{k a:Nat}{b:Cx}(h:wE pp l w c j L wr k a b)(hk:k=0\/(a<l.length/\k<64)):
  jQ pp l (oq l L) L ⟨[],[],⟨#[]⟩⟩=jQ pp l (.n::wB l (63 - k) (a+1+(ny pp .n (l.drop (a+1))).toNat)) a b/\nP pp l (.n::wB l (63 - k) (a+1+(ny pp .n (l.drop (a+1))).toNat)) a:=by
 have e:(ny pp .n (l.drop (a+1))).toNat=(iV 32 (l.drop (a+1))).length:=by simp only[ny,Int.toNat_natCast]
 rw[h.eq,e];have:=h.ok;rw[Si l L k a h.h0 hk]at this⊢;exact⟨rfl,this⟩
theorem Sm (pp:List UInt8->Bool)(l:List UInt8)(w:aj)(a j L n:Nat)(b:L<=l.length)(c:nP pp l (oq l L) L):
  wE pp l w a j L ((((w.alloc (cmd 0 (.slice af 0 0) (.slice af 0 0) ⟨#[]⟩)).drewN n).alloc (.cells #[.int .i64 (jC j),.slice (ah ⟨a+5+j,0,af⟩) (jc j).length (jc j).length,.bool (nz j)] 69)).alloc (cmd (jC j) (.slice af 0 0) (.slice af 0 0) ⟨#[]⟩)) 0 L ⟨[],[],⟨#[]⟩⟩:=by
 have d:((w.alloc (cmd 0 (.slice af 0 0) (.slice af 0 0) ⟨#[]⟩)).drewN n).heap.size=w.heap.size+1:=by simp[bK]
 have e:(((w.alloc (cmd 0 (.slice af 0 0) (.slice af 0 0) ⟨#[]⟩)).drewN n).alloc (.cells #[.int .i64 (jC j),.slice (ah ⟨a+5+j,0,af⟩) (jc j).length (jc j).length,.bool (nz j)] 69)).heap.size=w.heap.size+1+1:=by simp[bK]
 refine⟨bP _,λ_=>rfl,b,?_,?_,?_,⟨.slice af 0 0,.slice af 0 0,iE,?_,⟨rfl,.inl ⟨rfl,rfl⟩⟩,⟨rfl,.inl ⟨rfl,rfl⟩⟩⟩,rfl,c,au _,au _⟩
 ·exact((((aK _ w).alloc (au _) _).trans (below_drewN _ _ _)).alloc iE _).alloc iE _
 ·rw[aS _ _ _ iE,aS _ _ _ iE]
  exact aP w _
 ·rw[aS _ _ _ iE,<-d]
  exact aP _ _
 ·rw[<-e]
  exact aP _ _
theorem Sr (pp:List UInt8->Bool)(s:ByteArray)(w:aj)(l j:Nat)(hF:Forms l w)(aa:Env w)(hs:s.size<=35184372088000)(J:wu (iV 32 s.data.toList)=ah j)(ab:j=12)(ac:nP pp s.data.toList (oq s.data.toList (iV 32 s.data.toList).length) (iV 32 s.data.toList).length)
  (ad:0<w.heap.size/\1<w.heap.size/\2<w.heap.size):
  aU aA 15 #[.string s,.map (ah (l+4))] w λe w'=>aC w.heap.size w w'/\Ja w.heap.size (jC j) (jQ pp s.data.toList (oq s.data.toList (iV 32 s.data.toList).length) (iV 32 s.data.toList).length ⟨[],[],⟨#[]⟩⟩) e w':=by
 have E:=(BO J).1;have hcut:=qE 32 s.data.toList;have K:s.data.toList.length=s.size:=iH
 have a9:s.extract 0 (iV 32 s.data.toList).length=⟨(iV 32 s.data.toList).toArray⟩:=by rw[BP,zf]
 have ai:=BN (H:=Unit) l (iV 32 s.data.toList) (.agg [.lit (.int .i64 0),.lit (.bool ax)]) 15;have ak:sQ (iV 32 s.data.toList) 15=ah j:=J;rw[ak]at ai;obtain⟨al,am⟩:=ai;have ba:Hid (s.size<=maxLen):=by show s.size<=maxLen;unfold maxLen;omega
 have bb:Hid ((iV 32 s.data.toList).length<=maxLen):=by show(iV 32 s.data.toList).length<=maxLen;unfold maxLen;omega
 have M:=ag ab;clear ab;have F:=ag hF;have bc:=ag aa;have bd:=ag ac;have be:=ag al;have HAS:=ag am;have O:=ag ad;generalize bf:(iV 32 s.data.toList).length=L at*;have bM:(L:Int)<=s.size:=iE
 clear hF aa ac al am ad J ak;go_enter dn,bZ;have bg:=ag (EF (iV 32 s.data.toList) (by rw[bf];exact bb.out))
 go_wp2_with(first
  |(go_at_call 31;refine(zg _ _ ba.out).mono ?_;rintro e bN ⟨rfl,n,rfl⟩)
  |(at_lookup;refine aZ _ rfl _ _ 41 rfl 9 69 (bF aY) bG qL (ED _) (.agg [.lit (.int .i64 0),.lit (.bool ax)]) [] rfl (l+4) 15 (qM l 15) rfl (F.out.own.alloc _) _ _ rfl bg.out ?_))
 intro v ps hv;rw[be.out]at hv;obtain rfl:=I9 E hv;rw[HAS.out];clear hv;go_wp2
 go_loopw [6,10] (λat_ i wr=>∃(k a:Nat) (m:Cx),i=.int .i64 k/\at_=.int .i64 a/\wE pp s.data.toList w l j L wr k a m) (λ_ i _=>64 - (intOf i).toNat)
 case atStart=>exact⟨0,L,⟨[],[],⟨#[]⟩⟩,rfl,rfl,Sm pp s.data.toList w l j L n hcut bd.out⟩
 case round=>
  obtain⟨k,a,m,rfl,rfl,hinv⟩:=hrel;have hm:nz j=aJ:=by unfold nz;have:=M.out;simpa using this
  have z:(jc j).length=1:=by rw[M.out];rfl
  have bO:(0:Int)<((jc j).length:Int):=iE
  have bh:0<(jc j).length:=iE
  have bi:=ag z;obtain⟨P,Q,g⟩:=hinv.cm;obtain⟨na,r,t,rfl⟩:=sU g.names;obtain⟨u,fn,x,rfl⟩:=sU g.fmts;have an:=iK g.blk 0 (.int .i64 (jC j));have ao:=iK g.blk 1 (.slice na r t);have ap:=iK g.blk 2 (.slice u fn x);have aq:=iK g.blk 3 (.string m.tx);have ar:=iK hinv.res 0 (.int .i64 0);have r1:=iK hinv.res 1 (.slice af 0 0);have r2:=iK hinv.res 2 (.slice af 0 0);have av:=iK hinv.res 3 (.string ⟨#[]⟩);have aw:∀o,wr.frozen? ⟨w.heap.size,o,af⟩=ax:=λo=>aO hinv.res o
  have bj:=iK hinv.og 0 (.int .i64 (jC j));have aD:=iK hinv.og 1 (.slice (ah ⟨l+5+j,0,af⟩) (jc j).length (jc j).length);have bk:=iK hinv.og 2 (.bool (nz j));have d:=ag hinv;have aE:=ag g;have bR:=hinv.hk;have bl:=hinv.ha;rw[K]at bl;clear hinv g a9;rcases Sl k a s.size with aL|⟨bm,bS,aM⟩|⟨bm,hex⟩
  case' inl=>have aR:(k:Int)<((jc j).length:Int):=iE;have a0:Hid (k=0\/(a<s.data.toList.length/\k<64)):=.inl aL;have G:Hid (k<64):=(by show k<64;omega);clear aL z
  case' inr.inl=>have aR:((k:Int)<((jc j).length:Int))=False:=iI;have bX:(k:Int)<64:=iE;have a0:Hid (k=0\/(a<s.data.toList.length/\k<64)):=.inr ⟨iE,aM⟩;have G:Hid (k<64):=aM;clear z
  case inr.inr=>
   have aR:((k:Int)<((jc j).length:Int))=False:=iI;have f:=ag (d.out.at_end iE iE);clear z;by_cases ha:a<s.size
   ·rw[gY iE]at f
    have e1:(a:Int)<s.size:=iE;have b0:((k:Int)<64)=False:=iI;go_wp2;refine aH (v:=.tuple #[.agg #[.int .i64 (jC j),.slice na r t,.slice u fn x,.string m.tx],.int .i64 a]) (by simp only[results,az];go_simp) rfl ⟨oh d.out.below (au _) _ _ _ _,_,_,_,_,_,_,_,by rw[f.out],λc hc=>by rw[f.out]at hc;cases hc⟩
   ·rw[gZ iE]at f
    have e1:¬(a:Int)<s.size:=iE;go_wp2;refine aH (v:=.tuple #[.agg #[.int .i64 (jC j),.slice na r t,.slice u fn x,.string m.tx],.int .i64 (-1)]) (by simp only[results,az];go_simp) rfl ⟨oh d.out.below (au _) _ _ _ _,_,_,_,_,_,_,_,by rw[f.out],λc hc=>?_⟩;rw[f.out]at hc;obtain rfl:m=c:=by simpa using hc
    exact⟨rfl,BR aE.out.names d.out.res iG,BR aE.out.fmts d.out.res iG⟩
  all_goals
   obtain⟨p,q⟩:=d.out.BU a0.out;have hK:(jc j)[0]=AK.n:=(by have:=M.out;subst this;rfl);by_cases ha:a=s.size
   ·first
    |exfalso;omega
    |have f:Hid (jQ pp s.data.toList (oq s.data.toList L) L ⟨[],[],⟨#[]⟩⟩=(af,(a:Int))):=by
      show _=_;rw[p];unfold jQ;rw[gY iE]
     have e1:((a:Int)==(s.size:Int))=aJ:=iI;clear p q ha hK;go_wp2;refine aH (v:=.tuple #[.agg #[.int .i64 (jC j),.slice na r t,.slice u fn x,.string m.tx],.int .i64 a]) (by simp only[results,az];go_simp) rfl ⟨oh d.out.below (au _) _ _ _ _,_,_,_,_,_,_,_,by rw[f.out],λc hc=>by rw[f.out]at hc;cases hc⟩
   have e1:((a:Int)==(s.size:Int))=ax:=iI;have b1:(a:Int)<s.size:=iE;have R:a<s.size:=iE;have A:s.data.toList.getD a 0=s[a]:=lC s a R;by_cases hc:s[a]=32
   ·have e3:((s[a].toNat:Int)!=32)=ax:=by rw[hc];rfl
    by_cases bo:a+1=s.size
    ·have f:Hid (jQ pp s.data.toList (oq s.data.toList L) L ⟨[],[],⟨#[]⟩⟩=(af,(a:Int)+1)):=by
      show _=_;rw[p];unfold jQ;rw[gZ iE,gZ (by rw[A];simpa using hc),gY iE]
     have bp:((a:Int)+1==(s.size:Int))=aJ:=iI;clear p q ha hK hc A;go_wp2;refine aH (v:=.tuple #[.agg #[.int .i64 (jC j),.slice na r t,.slice u fn x,.string m.tx],.int .i64 ((a:Int)+1)]) (by simp only[results,az];go_simp) rfl ⟨oh d.out.below (au _) _ _ _ _,_,_,_,_,_,_,_,by rw[f.out],λc hc=>by rw[f.out]at hc;cases hc⟩
    ·have S:a+1<s.size:=iE
     have bp:((a:Int)+1==(s.size:Int))=ax:=iI;have U:=Ez E bh;rw[hK]at U;have a1:Hid (w.heap[l+5+j]?=ah (.cells (rG j) 66)):=F.out.rows j E;have bq:=ag U;have V:=ag (iJ p q);have br:=ag S;clear p q U ha hK hc A bo S;go_wp2;have S:=br.out;have e5:(a:Int)+1<=s.size:=iE;have e6:((a:Int)+1).toNat=a+1:=iE;have e7:(0:Int)<=(a:Int)+1:=iE;have b2:min (k:Int) (((jc j).length:Int) - 1)=0:=(by have:=bi.out;omega);have a2:(jc j).length<=4:=zL E;have b3:IntKind.i64.wrap (((jc j).length:Int) - 1)=((jc j).length:Int) - 1:=IntWalk.i64_in _ iE;have b4:(0:Int)<=k:=iE;clear a2
     refine Mix.Ec (aF:=?_) (aG:=?_) 14 5 _ (λW=>W.heap[w.heap.size+1]?=ah (.cells #[.int .i64 (jC j),.slice (ah ⟨l+5+j,0,af⟩) (jc j).length (jc j).length,.bool (nz j)] 69)/\W.heap[l+5+j]?=ah (.cells (rG j) 66))
      (After pp s.data.toList w wr l j (kY pp .n (s.data.toList.drop (a+1)) m)) (.tuple #[.int .i64 (ny pp .n (s.data.toList.drop (a+1))),.bool (oV pp .n (s.data.toList.drop (a+1)))]) (sS .n) #[.pointer (ah ⟨w.heap.size+1+1,0,af⟩),.string (s.extract (a+1) s.size)]
      iF rfl iF iF iF rfl rfl iF iF iF iF ?_ ?_ ?_ ?_ ?_ ?_ ?_ ?_ ?_
     rotate_left 2
     ·intro I
      exact⟨d.out.og,(d.out.below.block _ (by have:=F.out.lt;omega)).trans a1.out⟩
     ·intro W I h;exact h.drewN I
     ·intro W h
      exact⟨h.keep _ _ _ _ d.out.og iE iG iG,(h.below.block _ (by have:=F.out.lt;omega)).trans a1.out⟩
     ·rintro ρ ⟨a3,a4⟩
      have aD:=iK a3 1 (.slice (ah ⟨l+5+j,0,af⟩) (jc j).length (jc j).length)
      have g1:ρ.cell? ⟨l+5+j,0,af⟩=ah (.func (.func (sS .n)) #[] #[]):=by exact(ae a4 (2*0)).trans bq.out
      clear a3 a4;simp only[bW,dE]
      repeat(go_big_quiet_step(fail))
      apply bQ;exact rfl
     ·rfl
     ·intro W
      go_simp;exact EC .n _ W
     ·intro I
      have X:(s.extract (a+1) s.size).data.toList=s.data.toList.drop (a+1):=by simp[aT];exact aW (cu (by rw[aN,K]))
      obtain⟨P,Q,B⟩:=d.out.cm;have a2:=G.out;have b5:=d.out.ln;have b6:=d.out.lf
      have C:s.data.toList.getD a 0=32:=by rw[lC s a R];have e:((s[a].toNat:Int)!=32)=ax:=e3;simp only[bne_eq_false_iff_eq]at e;exact aI.1 (by have e:(32:UInt8).toNat=32:=rfl;omega)
      have a5:=V.out.2 iE C iE;refine(Ey pp .n (s.extract (a+1) s.size) (wr.drewN I) w.heap.size (w.heap.size+1+1) (jC j) m ⟨P,Q,B.base,B.blk,B.names,B.fmts⟩ d.out.below.size iI (bc.out.below' (d.out.below.trans (below_drewN _ _ _)) O.out.1 O.out.2.1 O.out.2.2) iE iE (λhp _=>?_) (λhp _=>?_)).mono ?_
      ·rw[X];exact a5.1 hp
      ·rw[X];exact⟨_,a5.1 hp⟩
      ·rintro e W ⟨v,rfl,rfl,a6,bs,a7⟩
       rw[X]at a7⊢;exact⟨rfl,d.out.below.trans ((below_drewN _ _ _).trans a6),λb bt T bv bw bx bA bB=>bs b bt T bv bw bx bA bB,a7⟩
     ·intro ρ
      simp only[bY,bz,Act.put,bC,cZ,dh]
      repeat(go_big_quiet_step(fail))
      apply bQ;exact rfl
     ·intro W y
      have hcut:=zK pp .n (s.data.toList.drop (a+1));rw[aN,K]at hcut;obtain⟨N,Y⟩:=Int.eq_ofNat_of_zero_le hcut.1;have b7:a+1+N<=s.size:=iE
      have C:s.data.toList.getD a 0=32:=by rw[lC s a R];have e:((s[a].toNat:Int)!=32)=ax:=e3;simp only[bne_eq_false_iff_eq]at e;exact aI.1 (by have e:(32:UInt8).toNat=32:=rfl;omega)
      have p:=V.out.1;have q:=(V.out.2 iE C iE).2;rw[zM,gZ iE,gZ (by simpa using C),gZ iE,Y]at p;rw[Y]at q⊢;clear hcut Y C;have g0:W.heap[w.heap.size]?=ah (cmd 0 (.slice af 0 0) (.slice af 0 0) ⟨#[]⟩):=y.keep _ _ _ _ d.out.res iE iG iG;have g2:W.heap[w.heap.size+1]?=ah (.cells #[.int .i64 (jC j),.slice (ah ⟨l+5+j,0,af⟩) (jc j).length (jc j).length,.bool (nz j)] 69):=y.keep _ _ _ _ d.out.og iE iG iG;cases D:oV pp .n (s.data.toList.drop (a+1))
      ·rw[gZ (by rw[D];decide)]at p
       obtain⟨P,Q,g⟩:=y.cm;obtain⟨na,r,t,rfl⟩:=sU g.names;obtain⟨u,fn,x,rfl⟩:=sU g.fmts;generalize kY pp .n (s.data.toList.drop (a+1)) m=a8 at y g;clear an ao ap aq ar r1 r2 av aw bj aD bk q D;have an:=iK g.blk 0 (.int .i64 (jC j));have ao:=iK g.blk 1 (.slice na r t);have ap:=iK g.blk 2 (.slice u fn x);have aq:=iK g.blk 3 (.string a8.tx);have ar:=iK g0 0 (.int .i64 0);have r1:=iK g0 1 (.slice af 0 0);have r2:=iK g0 2 (.slice af 0 0);have av:=iK g0 3 (.string ⟨#[]⟩);have aw:∀o,W.frozen? ⟨w.heap.size,o,af⟩=ax:=λo=>aO g0 o
       have bE:=ag y;have f:=ag p;clear y g g0 g2 p;go_wp2;refine aH (v:=.tuple #[.agg #[.int .i64 (jC j),.slice na r t,.slice u fn x,.string a8.tx],.int .i64 ((a:Int)+1)]) (by simp only[results,az];go_simp) rfl ⟨oh bE.out.below (au _) _ _ _ _,_,_,_,_,_,_,_,by rw[f.out],λc hc=>by rw[f.out]at hc;cases hc⟩
      ·rw[gY D]at p
       have Z:(kY pp .n (s.data.toList.drop (a+1)) m).ns.length<=k+1/\(kY pp .n (s.data.toList.drop (a+1)) m).fs.length<=k+1:=by have z:=EE pp .n (s.data.toList.drop (a+1)) m;have a6:=d.out.ln;have B:=d.out.lf;exact⟨iE,iE⟩
       have b8:(k:Int)<=63:=(by have:=G.out;omega);have bL:Hid (wE pp s.data.toList w l j L W (k+1) (a+1+N) (kY pp .n (s.data.toList.drop (a+1)) m)):=⟨iE,λh=>absurd h (dB k),iE,y.below,g0,g2,y.cm,by rw[BV];exact p,by rw[BV];exact q D,Z.1,Z.2⟩;clear y g0 g2 p q Z D;go_wp2;go_roundw
       case rel=>exact⟨k+1,a+1+N,_,ig _ iE,ig _ iE,bL.out⟩
       case measure=>have:=G.out;show 64 - ((k:Int)+1).toNat<64 - (k:Int).toNat;omega
   ·have f:Hid (jQ pp s.data.toList (oq s.data.toList L) L ⟨[],[],⟨#[]⟩⟩=(af,(a:Int))):=by
     show _=_;rw[p];unfold jQ;rw[gZ iE,gY (by rw[A];simpa using hc)]
    have e3:((s[a].toNat:Int)!=32)=aJ:=by simp only[bne_iff_ne,ne_eq];exact λe=>hc (aI.1 (by have e:(32:UInt8).toNat=32:=rfl;omega))
    clear p q ha hK hc A;go_wp2;refine aH (v:=.tuple #[.agg #[.int .i64 (jC j),.slice na r t,.slice u fn x,.string m.tx],.int .i64 a]) (by simp only[results,az];go_simp) rfl ⟨oh d.out.below (au _) _ _ _ _,_,_,_,_,_,_,_,by rw[f.out],λc hc=>by rw[f.out]at hc;cases hc⟩
def qh (l:List UInt8)(j:Nat):List AK:=if j=12 then oq l (iV 32 l).length else jc j
def ou (pp:List UInt8->Bool)(l:List UInt8):Option (Int×Cx)×Int:=
 match wu (iV 32 l)with
 |none=>(af,0)
 |some j=>((jQ pp l (qh l j) (iV 32 l).length ⟨[],[],⟨#[]⟩⟩).1.map (λc=>(jC j,c)),(jQ pp l (qh l j) (iV 32 l).length ⟨[],[],⟨#[]⟩⟩).2)
def uD (pp:List UInt8->Bool)(l:List UInt8):Prop:=
 match wu (iV 32 l)with
 |none=>True
 |some j=>nP pp l (qh l j) (iV 32 l).length
def qN (ln:List UInt8):Bool:=!ln.isEmpty&&(ln.getD 0 0!=35)
def lY (pp:List UInt8->Bool):Nat->List UInt8->Nat->List (Int×Cx)->Option (List (Int×Cx))×Int×Int
 |0,_,_,acc=>(ah acc,0,0)
 |n+1,l,a,acc=>
  if l.isEmpty then(ah acc,0,0)
  else if qN (iV 10 l)then
   if acc.length=256 then(af,a,7)
   else match ou pp (iV 10 l)with
    |(ah c,_)=>lY pp n (l.drop ((iV 10 l).length+1)) (a+((iV 10 l).length+1)) (acc++[c])
    |(af,k)=>(af,a+k,4)
  else lY pp n (l.drop ((iV 10 l).length+1)) (a+((iV 10 l).length+1)) acc
def sV (pp:List UInt8->Bool):Nat->List UInt8->Prop
 |0,_=>True
 |n+1,l=>l.isEmpty=ax->(qN (iV 10 l)=aJ->uD pp (iV 10 l))/\sV pp n (l.drop ((iV 10 l).length+1))
def jT (pp:List UInt8->Bool)(l:List UInt8):Option (List (Int×Cx))×Int×Int:=
 if l.length>65536 then(af,0,6)else match cp l with|some n=>(af,n,11)|none=>lY pp l.length l 0 []
theorem Jb (pp:List UInt8->Bool)(l:List UInt8):∀(b:List AK) (a:Nat) (c:Cx),a<=l.length->(∃d,jQ pp l b a c=(ah d,-1))\/(∃k:Nat,jQ pp l b a c=(af,(k:Int))/\k<=l.length)
 |[],a,c,h=>by
  unfold jQ;by_cases e:a<l.length
  ·rw[gY e];exact .inr ⟨a,rfl,h⟩
  ·rw[gZ e];exact .inl ⟨c,rfl⟩
 |K::b,a,c,h=>by
  rw[zM];split
  ·exact .inr ⟨a,rfl,h⟩
  ·split
   ·exact .inr ⟨a,rfl,h⟩
   ·split
    ·exact .inr ⟨a+1,rfl,iE⟩
    ·split
     ·have:=zK pp K (l.drop (a+1))
      rw[aN]at this;exact Jb pp l b _ _ iE
     ·exact .inr ⟨a+1,rfl,iE⟩
theorem Jc (pp:List UInt8->Bool)(l:List UInt8):(∃d,ou pp l=(ah d,-1))\/(∃k:Nat,ou pp l=(af,(k:Int))/\k<=l.length):=by
 unfold ou;cases h:wu (iV 32 l)with
 |none=>exact .inr ⟨0,rfl,bP _⟩
 |some j=>
  rcases Jb pp l (qh l j) (iV 32 l).length ⟨[],[],⟨#[]⟩⟩ (qE _ _)with⟨d,a⟩|⟨k,a,b⟩
  ·simp only[a];exact .inl ⟨_,rfl⟩
  ·simp only[a];exact .inr ⟨k,rfl,b⟩
def Jd (pp:List UInt8->Bool)(l:List UInt8)(B:Nat)(e:dC)(w':aj):Prop:=
 ∃op a b d f g h tx,e=.returned (.tuple #[.agg #[.int .i64 op,.slice a b d,.slice f g h,.string tx],.int .i64 (ou pp l).2])/\∀c,(ou pp l).1 =ah c->op=c.1 /\tx=c.2.tx/\qc B (.slice a b d) c.2.ns w'/\qg B (.slice f g h) c.2.fs w'
theorem Je (pp:List UInt8->Bool)(s:ByteArray)(w:aj)(b:Nat)(hF:Forms b w)(l:Env w)(hs:s.size<=35184372088000)(a:uD pp s.data.toList)
  (m:0<w.heap.size/\1<w.heap.size/\2<w.heap.size):
  aU aA 15 #[.string s,.map (ah (b+4))] w λe w'=>aC w.heap.size w w'/\Jd pp s.data.toList w.heap.size e w':=by
 unfold Jd;unfold uD at a;unfold ou;cases h:wu (iV 32 s.data.toList)with
 |none=>exact(RZ s w b hF hs h).mono λe w' ⟨f,g⟩=>⟨f,_,_,_,_,_,_,_,_,g,λc hc=>by cases hc⟩
 |some j=>
  rw[h]at a;by_cases i:j=12
  ·have hx:qh s.data.toList j=oq s.data.toList (iV 32 s.data.toList).length:=by unfold qh;rw[gY i]
   simp only[hx]at a⊢;refine(Sr pp s w b j hF l hs h i a m).mono λe w' ⟨f,n,o,p,q,r,t,tx,g,k⟩=>⟨f,_,_,_,_,_,_,_,_,g,λc hc=>?_⟩
   obtain⟨d,hd,rfl⟩:=bT.1 hc;exact⟨rfl,k d hd⟩
  ·have hx:qh s.data.toList j=jc j:=by unfold qh;rw[gZ i]
   simp only[hx]at a⊢;refine(RX pp s w b j hF l hs h i a m).mono λe w' ⟨f,n,o,p,q,r,t,tx,g,k⟩=>⟨f,_,_,_,_,_,_,_,_,g,λc hc=>?_⟩
   obtain⟨d,hd,rfl⟩:=bT.1 hc;exact⟨rfl,k d hd⟩
theorem EG {T E size bytes:Nat}{z:ay}(f:Tryz.prog.underlying T=ah (.slice E))(g:(Tryz.prog.info? E).map (λi=>(i.zero,i.size,i.bytes))=ah (ah z,size,bytes))(l:z.cells.size=size)(m:0<size)(p:bytes<=1000)
  {ops:Array Oper}{rest:List Oper}{o:Oper}{a:Act}{Q:Exit->Act->aj->Prop}(w:aj)(q:o.guard=af)(s x:Operand)
  (r:o.op=.call {callee:=.builtin .append,args:=#[s,x],argTypes:=#[T,T]}){B n:Nat}{v:ay}{xs:List ay}(hs:a.eval s=v)(d:w.ownsRow B E size v n xs)(b:Array ay)(t:b.size=size)(y:∀u∈b.toList,u.oneCell'=aJ)
  (H c:Nat)(A:w.heap.size=H)(hx:a.eval x=.slice (ah ⟨H,0,af⟩) 1 c)(N:n<=100000000)(C:B<=w.heap.size)
  (h:∀v' w',w'.ownsRow B E size v' (n+1) (xs++b.toList)->aC B w w'->(w.alloc (.cells b E)).grownBy w' v.ownBlock->wpList aA ops Q rest (a.put o.dst v') w'):wpList aA ops Q (o::rest) a (w.alloc (.cells b E)):=by
 obtain⟨D,hi,F,G,I⟩:=info_parts g;subst A;have J:(n+1)*bytes<=140737488355328:=di (Nat.mul_le_mul (show n+1<=100000001 by omega) p) iG;refine wpList_append_own _ q s x T r B E D z size bytes f hi F G I l m v n xs hs (aB d _) ⟨w.heap.size,0,af⟩ 1 c b.toList hx (by simp[t]) ?_ y (by unfold maxLen;omega) J iI ?_
 ·intro j u K
  rw[add_zero',ae (aP w _)];simpa using K
 ·intro v' w' L e _
  exact h v' w' L (((aK B w).alloc C _).grown e iI (λk M=>(dJ d k M).1)) e
theorem World.EH (w:aj)(o:Obj):(w.alloc o).heap.size=w.heap.size+1:=iH
theorem yF {w:aj}{B a e size n:Nat}{v:ay}{xs:List ay}(h:w.ownsRow B e size v n xs)(d:a<=B):w.ownsRow a e size v n xs:=by
 refine⟨h.1,?_⟩;rcases h.2 with hn|⟨g,cap,b,hv,f,c⟩
 ·exact .inl hn
 ·exact .inr ⟨g,cap,b,hv,iE,c⟩
theorem Su {w:aj}{B e size n:Nat}{v:ay}{xs:List ay}(h:w.ownsRow B e size v n xs){k:Nat}(a:v.ownBlock=ah k):∃b,w.heap[k]?=ah (.cells b e (0,0)):=by
 rcases h.2 with⟨rfl,_⟩|⟨g,cap,c,rfl,_,d,_⟩
 ·simp[Value.ownBlock]at a
 ·simp only[Value.ownBlock,bD]at a
  subst a;exact⟨c,d⟩
theorem BX {w w':aj}{b e1 c d B e size n:Nat}{v1 v:ay}{f xs:List ay}(h:w.ownsRow b e1 c v1 d f)(i:w.ownsRow B e size v n xs)(j:e1≠e){o:Obj}(k:(w.alloc o).grownBy w' v.ownBlock):w'.ownsRow b e1 c v1 d f:=by
 refine⟨h.1,?_⟩;rcases h.2 with hn|⟨g,cap,l,hv,m,a,p⟩
 ·exact .inl hn
 ·refine .inr ⟨g,cap,l,hv,m,?_,p⟩
  have q:g<w.heap.size:=(aQ.1 a).1
  rw[k.block g iI (λe=>by obtain⟨r,hc⟩:=Su i e.symm;rw[a]at hc;simp at hc;exact j hc.2),aS w _ g q]
  exact a
structure CM where
 op:Int
 nv:ay
 fv:ay
 cx:Cx
def CM.cells (m:CM):List ay:=[.int .i64 m.op,m.nv,m.fv,.string m.cx.tx]
def lM (B:Nat)(v:ay)(L:List (Int×Cx))(w:aj):Prop:=∃M:List CM,M.map (λm=>(m.op,m.cx))=L/\w.ownsRow B 38 4 v M.length (M.flatMap CM.cells)/\∀m∈M,qc B m.nv m.cx.ns w/\qg B m.fv m.cx.fs w
theorem lM.nil (B:Nat)(w:aj):lM B (.slice af 0 0) [] w:=⟨[],rfl,⟨rfl,.inl ⟨rfl,rfl⟩⟩,λ_ h=>by cases h⟩
theorem lM.slice {B:Nat}{v:ay}{L:List (Int×Cx)}{w:aj}(h:lM B v L w):∃a b,v=.slice a L.length b:=by
 obtain⟨M,rfl,c,e⟩:=h;rw[List.length_map];rcases c.2 with⟨rfl,d⟩|⟨g,cap,f,rfl,_⟩
 ·rw[d];exact⟨_,_,rfl⟩
 ·exact⟨_,_,rfl⟩
theorem oz {w w':aj}{B e size n:Nat}{v:ay}{xs:List ay}(h:w.ownsRow B e size v n xs)(b:aC w.heap.size w w'):w'.ownsRow B e size v n xs:=by
 refine⟨h.1,?_⟩;rcases h.2 with hn|⟨g,cap,c,hv,d,a,f⟩
 ·exact .inl hn
 ·refine .inr ⟨g,cap,c,hv,d,?_,f⟩
  have i:g<w.heap.size:=(aQ.1 a).1;rw[b.block g i];exact a
theorem lM.below {B:Nat}{v:ay}{L:List (Int×Cx)}{w w':aj}(h:lM B v L w)(a:aC w.heap.size w w'):lM B v L w':=by obtain⟨M,c,d,b⟩:=h;exact⟨M,c,oz d a,λm hm=>⟨oz (b m hm).1 a,oz (b m hm).2 a⟩⟩
theorem Jf:(Tryz.prog.info? 38).map (λi=>(i.zero,i.size,i.bytes))=ah (ah (.agg #[.int .i64 0,.slice af 0 0,.slice af 0 0,.string ⟨#[]⟩]),4,72):=iF
theorem Sv (op:Int)(b c:Option Addr)(d e f g:Nat)(tx:ByteArray):∀u∈(#[.int .i64 op,.slice b d e,.slice c f g,.string tx]:Array ay).toList,u.oneCell'=aJ:=by intro u a;simp at a;rcases a with rfl|rfl|rfl|rfl<;>rfl
def Sz (pp:List UInt8->Bool)(b:List UInt8)(c:aj)(d:Nat)(wr:aj)(e:ay)(a:Nat)(acc:List (Int×Cx))(n:Nat):Prop:=
 a<=b.length+1/\b.length<=a+n/\acc.length<=256/\lM c.heap.size e acc wr/\aC c.heap.size c wr/\Forms d wr/\Env wr/\lY pp b.length b 0 []=lY pp n (b.drop a) a acc/\sV pp n (b.drop a)
def EI (B:Nat)(r:Option (List (Int×Cx))×Int×Int)(e:dC)(w':aj):Prop:=
 ∃v,e=.returned (.tuple #[v,.int .i64 r.2.1,.int .i64 r.2.2])/\lM B v (r.1.getD []) w'
theorem Env.Jg {w:aj}(h:Env w):0<w.heap.size/\1<w.heap.size/\2<w.heap.size:=⟨h.fmt.lt,h.tabs.lt.1,h.tabs.lt.2⟩
theorem SE (pp:List UInt8->Bool)(s:ByteArray)(w:aj)(a:Nat)(hF:Forms a w)(k:Env w)(hs:s.size<=35184372088000)(n:uD pp s.data.toList)(d:Int×Cx)(h:ou pp s.data.toList=(ah d,-1)):
  aU aA 15 #[.string s,.map (ah (a+4))] w λe w'=>∃b c f g i j,e=.returned (.tuple #[.agg #[.int .i64 d.1,.slice b c f,.slice g i j,.string d.2.tx],.int .i64 (-1)])/\aC w.heap.size w w'/\qc w.heap.size (.slice b c f) d.2.ns w'/\qg w.heap.size (.slice g i j) d.2.fs w':=by
 refine(Je pp s w a hF k hs n k.Jg).mono ?_;rintro e w' ⟨o,op,b,c,f,g,i,j,tx,l,m⟩;rw[h]at l m;obtain⟨rfl,rfl,p,q⟩:=m d rfl;exact⟨_,_,_,_,_,_,l,o,p,q⟩
theorem SG (pp:List UInt8->Bool)(s:ByteArray)(w:aj)(a:Nat)(hF:Forms a w)(b:Env w)(hs:s.size<=35184372088000)(m:uD pp s.data.toList)(k:Nat)(h:ou pp s.data.toList=(af,(k:Int))):
  aU aA 15 #[.string s,.map (ah (a+4))] w λe w'=>∃op c d f g i j tx,e=.returned (.tuple #[.agg #[.int .i64 op,.slice c d f,.slice g i j,.string tx],.int .i64 k])/\aC w.heap.size w w':=by
 refine(Je pp s w a hF b hs m b.Jg).mono ?_;rintro e w' ⟨n,op,c,d,f,g,i,j,tx,l,o⟩;rw[h]at l;exact⟨_,_,_,_,_,_,_,_,l,n⟩
theorem SH (pp:List UInt8->Bool)(n a:Nat)(acc:List (Int×Cx)):lY pp n [] a acc=(ah acc,0,0):=by cases n<;>rfl
theorem SI {pp:List UInt8->Bool}{n:Nat}{l:List UInt8}{a:Nat}{acc:List (Int×Cx)}(h:l.isEmpty=ax)(hc:qN (iV 10 l)=ax):lY pp (n+1) l a acc=lY pp n (l.drop ((iV 10 l).length+1)) (a+((iV 10 l).length+1)) acc:=by
 conv=>lhs;unfold lY
 rw[gZ (by rw[h];decide),gZ (by rw[hc];decide)]
theorem SK {pp:List UInt8->Bool}{n:Nat}{l:List UInt8}{a:Nat}{acc:List (Int×Cx)}(h:l.isEmpty=ax)(hc:qN (iV 10 l)=aJ)(ha:acc.length=256):lY pp (n+1) l a acc=(af,(a:Int),7):=by
 conv=>lhs;unfold lY
 rw[gZ (by rw[h];decide),gY hc,gY ha]
theorem SL {pp:List UInt8->Bool}{n:Nat}{l:List UInt8}{a k:Nat}{acc:List (Int×Cx)}(h:l.isEmpty=ax)(hc:qN (iV 10 l)=aJ)(ha:acc.length≠256)(b:ou pp (iV 10 l)=(af,(k:Int))):lY pp (n+1) l a acc=(af,(a:Int)+k,4):=by
 conv=>lhs;unfold lY
 rw[gZ (by rw[h];decide),gY hc,gZ ha,b]
theorem SN {pp:List UInt8->Bool}{n:Nat}{l:List UInt8}{a:Nat}{acc:List (Int×Cx)}{d:Int×Cx}(h:l.isEmpty=ax)(hc:qN (iV 10 l)=aJ)(ha:acc.length≠256)(b:ou pp (iV 10 l)=(ah d,-1)):lY pp (n+1) l a acc=lY pp n (l.drop ((iV 10 l).length+1)) (a+((iV 10 l).length+1)) (acc++[d]):=by
 conv=>lhs;unfold lY
 rw[gZ (by rw[h];decide),gY hc,gZ ha,b]
theorem SQ (s:ByteArray)(w:aj)(a:Tabs w)(n:Nat)(h:cp s.data.toList=ah n):aU aA 12 #[.string s] w λe w'=>e=.returned (.tuple #[.int .i64 n,.int .i64 11])/\aC w.heap.size w w':=by have:=check_any s w a;rw[h]at this;exact this
theorem SV (s:ByteArray)(w:aj)(a:Tabs w)(h:cp s.data.toList=af):aU aA 12 #[.string s] w λe w'=>e=.returned (.tuple #[.int .i64 (-1),.int .i64 0])/\aC w.heap.size w w':=by have:=check_any s w a;rw[h]at this;exact this
theorem SX {B b:Nat}{c:ay}{acc:List (Int×Cx)}{d wr wr':aj}(f:lM B c acc wr)(g:aC B d wr)(h:B<=wr.heap.size)(e:Forms b wr)(i:Env wr)(a:aC wr.heap.size wr wr'):lM B c acc wr'/\aC B d wr'/\Forms b wr'/\Env wr':=
 ⟨f.below a,g.trans (a.mono h),e.below a (by have:=e.lt;omega),i.below a⟩
theorem SY {B c:Nat}{v v':ay}{M:List CM}{W w':aj}{o:Obj}(d:Int×Cx)(e f:ay)(a:W.ownsRow B 38 4 v M.length (M.flatMap CM.cells))(g:∀m∈M,qc B m.nv m.cx.ns W/\qg B m.fv m.cx.fs W)
  (j:qc c e d.2.ns W)(k:qg c f d.2.fs W)(i:B<=c)(hr:w'.ownsRow B 38 4 v' (M.length+1) (M.flatMap CM.cells++[.int .i64 d.1,e,f,.string d.2.tx]))(b:(W.alloc o).grownBy w' v.ownBlock):
  lM B v' (M.map (λm=>(m.op,m.cx))++[d]) w':=by
 refine⟨M++[⟨d.1,e,f,d.2⟩],iH,?_,?_⟩
 ·rw[aV,bu]
  exact hr
 ·intro m hm
  rcases List.mem_append.1 hm with h|h
  ·exact⟨BX (g m h).1 a iG b,BX (g m h).2 a iG b⟩
  ·simp only[List.mem_singleton]at h
   subst h;exact⟨yF (BX j a iG b) i,yF (BX k a iG b) i⟩
theorem parse_any (pp:List UInt8->Bool)(s:ByteArray)(w:aj)(a7:Env w)(hs:s.size<=maxLen)(a8:sV pp s.size s.data.toList):
  aU aA 7 #[.string s] w λe w'=>aC w.heap.size w w'/\EI w.heap.size (jT pp s.data.toList) e w':=by
 have c:s.data.toList.length=s.size:=iH
 have an:=ag a7;have bt:=ag a8;unfold maxLen at hs;clear a7 a8;by_cases b4:s.size<=65536
 ·have bv:(s.size:Int)<=65536:=iE
  cases N:cp s.data.toList with
  |some n=>
   have C:Hid (jT pp s.data.toList=(af,(n:Int),11)):=by show _=_;unfold jT;rw[gZ iE,N]
   have aG:=ag N;have i:=ag c;clear N c;go_enter dD,dw
   go_wp2_with(go_at_call 12;refine(SQ _ _ an.out.tabs n aG.out).mono ?_;rintro e T ⟨rfl,ao⟩)
   go_ret3;exact⟨ao,by rw[C.out];exact⟨_,rfl,lM.nil _ _⟩⟩
  |none=>
   have C:Hid (jT pp s.data.toList=lY pp s.data.toList.length s.data.toList 0 []):=by show _=_;unfold jT;rw[gZ iE,N]
   have aG:=ag N;have i:=ag c;clear N c;go_enter dD,dw
   go_wp2_with(first
    |(go_at_call 12;refine(SV _ _ an.out.tabs aG.out).mono ?_;rintro e T ⟨rfl,ao⟩;have u:=ag ao;clear ao)
    |(go_at_call 13;refine(RN _).mono ?_;rintro e b ⟨rfl,hf⟩;have D:=ag hf;clear hf))
   go_loopw [8,9] (λbw aL wr=>∃(a n:Nat) (acc:List (Int×Cx)) (E:Option Addr) (F:Nat),aL=.int .i64 a/\bw=.slice E acc.length F/\Sz pp s.data.toList b T.heap.size wr (.slice E acc.length F) a acc n) (λ_ aL _=>s.size+1 - (intOf aL).toNat)
   case atStart=>have c:=i.out;exact⟨0,s.size,[],af,0,rfl,rfl,iE,iE,iH,lM.nil _ _,aK _ _,D.out.forms,(an.out.below u.out).below D.out.below,by rw[c,bz],by rw[bz];exact bt.out⟩
   case round=>
    obtain⟨a,n,acc,E,F,rfl,rfl,bx⟩:=hrel;have c:=i.out;obtain⟨ha,hn,a9,bA,ap,ba,bb,G,aM⟩:=bx;rw[c]at ha hn;obtain⟨M,O,U,V⟩:=bA;have bc:M.length=acc.length:=(by rw[<-O];simp);by_cases bB:a<s.size
    ·obtain⟨m,rfl⟩:∃m,n=m+1:=⟨n - 1,iE⟩
     have X:(s.data.toList.drop a).isEmpty=ax:=by
      cases h:s.data.toList.drop a with
      |nil=>have:=ig aX h;simp at this;omega
      |cons x r=>rfl
     have bd:(s.extract a s.size).data.toList=s.data.toList.drop a:=by simp[aT];exact aW (cu (by rw[aN,c]))
     have aq:=qE 10 (s.data.toList.drop a);rw[aN,c]at aq;obtain⟨S,hS⟩:∃S:ByteArray,S=⟨(iV 10 (s.data.toList.drop a)).toArray⟩:=⟨_,rfl⟩;have aR:S.data.toList=iV 10 (s.data.toList.drop a):=(by rw[hS]);have Y:(iV 10 (s.data.toList.drop a)).length=S.size:=(by rw[<-aR];simp);rw[Y]at aq;have j:=aM X;rw[Y,bU]at j;have v:=SI (pp:=pp) (n:=m) (a:=a) (acc:=acc) X;have H:=SK (pp:=pp) (n:=m) (a:=a) (acc:=acc) X;have I:=λk=>SL (pp:=pp) (n:=m) (a:=a) (k:=k) (acc:=acc) X
     have J:=λd=>SN (pp:=pp) (n:=m) (a:=a) (d:=d) (acc:=acc) X
     rw[Y,bU,<-G]at v;rw[<-G]at H;simp only[Y,bU,<-G]at J;simp only[<-G]at I;have Z:=ag bd;have aa:=ag hS;have ab:Hid ((s.extract a s.size).size<=maxLen):=(by show(s.extract a s.size).size<=maxLen;unfold maxLen;simp;omega);have bE:Hid (lM b.heap.size (.slice E acc.length F) acc wr):=⟨M,O,U,V⟩;have ar:Hid (b.heap.size<=wr.heap.size):=ap.size;have l:=ag (λ(W:aj) (h:aC wr.heap.size wr W)=>SX bE.out ap ar.out ba bb h);have b5:(S.size:Int)<=65536:=iE;have b6:(a:Int)<s.size:=iE;have b7:(a:Int)<=s.size:=iE;have b8:(0:Int)<=a:=iE;have a0:=ag (iJ O (iJ U V));have P:=ag aR;have be:=ag aq;have a1:=ag hn;clear bd hS aM G O U V Y aR aq c hn ap ba bb bB;by_cases y:S.size=0
     ·obtain rfl:S=⟨#[]⟩:=by
       have:S.data.size=0:=y;exact ext_list (by simp[bn this])
      have q:=ag (v (by rw[<-P.out];rfl));have ac:=ag j.2;clear v H I J j y
      go_wp2_with(go_at_call 14;refine(wP _ 10 _ ab.out).mono ?_;rw[Z.out,<-aa.out];rintro e w3 ⟨rfl,k,rfl⟩)
      go_roundw
      case rel=>obtain⟨t,f,o,p⟩:=l.out _ (below_drewN _ _ _);have:=a1.out;exact⟨a+(0+1),m,acc,E,F,ig _ iE,rfl,by rw[i.out];omega,by rw[i.out];omega,a9,t,f,o,p,q.out,ac.out⟩
      case measure=>simp[intOf];omega
     ·have bL:0<S.size:=iE
      have ad:S.data.toList.getD 0 0=S[0]:=lC S 0 bL
      have ai:S.data.toList.isEmpty=ax:=by
       cases h:S.data.toList with
       |nil=>exact absurd (by simpa using ig aX h) y
       |cons x r=>rfl
      have Q:qN (iV 10 (s.data.toList.drop a))=(S[0]!=35):=by rw[<-P.out];unfold qN;rw[ad,ai];rfl
      have bM:¬S.toList=[]:=λe=>by have:=(bH S).1 e;subst this;exact y rfl
      have b9:(!S.toList.isEmpty)=aJ:=by
       cases h:S.toList with
       |nil=>exact absurd h bM
       |cons x r=>rfl
      by_cases z:S[0]=35
      ·have e5:((S[0].toNat:Int)!=35)=ax:=by rw[z];rfl
       have q:=ag (v (by rw[Q,z];rfl));have ac:=ag j.2;clear v H I J j y z Q ai ad
       go_wp2_with(go_at_call 14;refine(wP _ 10 _ ab.out).mono ?_;rw[Z.out,<-aa.out];rintro e w3 ⟨rfl,k,rfl⟩)
       go_roundw
       case rel=>obtain⟨t,f,o,p⟩:=l.out _ (below_drewN _ _ _);have:=a1.out;have:=be.out;exact⟨a+(S.size+1),m,acc,E,F,ig _ iE,rfl,by rw[i.out];omega,by rw[i.out];omega,a9,t,f,o,p,q.out,ac.out⟩
       case measure=>simp[intOf];omega
      ·have e5:((S[0].toNat:Int)!=35)=aJ:=by
        simp only[bne_iff_ne,ne_eq];exact λe=>z (aI.1 (by have e:(35:UInt8).toNat=35:=rfl;omega))
       have K:qN (iV 10 (s.data.toList.drop a))=aJ:=(by rw[Q];simpa using z);by_cases hm:acc.length=256
       ·have e6:((acc.length:Int)==256)=aJ:=iI
        have q:=ag (H K hm);clear v H I J j y z Q ai ad K hm
        go_wp2_with(go_at_call 14;refine(wP _ 10 _ ab.out).mono ?_;rw[Z.out,<-aa.out];rintro e w3 ⟨rfl,k,rfl⟩)
        go_ret3;obtain⟨t,f,o,p⟩:=l.out _ (below_drewN _ _ k);have g:=u.out.trans (D.out.below.mono u.out.size);refine⟨g.trans (f.mono g.size),?_⟩;rw[C.out,q.out];exact⟨_,rfl,lM.nil _ _⟩
       ·have e6:((acc.length:Int)==256)=ax:=iI
        have bf:Hid (uD pp S.data.toList):=by show uD pp S.data.toList;rw[P.out];exact j.1 K
        have bg:Hid (S.size<=35184372088000):=(by show S.size<=35184372088000;omega);have ac:=ag j.2;rcases Jc pp (iV 10 (s.data.toList.drop a))with⟨d,hd⟩|⟨av,hd,bN⟩
        ·have q:=ag (J d K hm hd)
         rw[<-P.out]at hd;have a2:=ag hd;have bh:Hid (acc.length+1<=256):=(by show acc.length+1<=256;omega);clear v H I J j y z Q ai ad K hm hd
         go_wp2_with(first
          |(go_at_call 14;refine(wP _ 10 _ ab.out).mono ?_;rw[Z.out,<-aa.out];rintro e w3 ⟨rfl,k,rfl⟩)
          |(go_at_call 15;refine(SE pp S _ _ (l.out _ (below_drewN _ _ _)).2.2.1 (l.out _ (below_drewN _ _ _)).2.2.2 bg.out bf.out d a2.out).mono ?_;rintro e L ⟨bO,bR,a3,bS,bX,a4,rfl,ak,bi,bj⟩;have al:=ag (iJ ((below_drewN wr.heap.size wr k).trans ak) (iJ bi bj));clear ak bi bj)
          |(at_builtin;(refine EG (B:=b.heap.size) (xs:=M.flatMap CM.cells) (n:=M.length) Tryz.underlying23 Jf rfl iG iG _ rfl _ _ rfl rfl (aB (oz a0.out.2.1 al.out.1) _) _ rfl (Sv _ _ _ _ _ _ _ _) (L.heap.size+1) _ (World.EH _ _) rfl ?c1 ?c2 ?_)))
         case c1=>have a5:=a0.out.1;have aw:=bh.out;have aD:=ig aX a5;simp at aD;omega
         case c2=>
          have:=ar.out;have:=al.out.1.size
          simp;omega
         intro v' R hr bk bl;have A:=al.out
         have bm:aC b.heap.size b wr:=by obtain⟨t,f,o,p⟩:=l.out _ (aK _ _);exact f
         have bo:Forms T.heap.size L/\Env L:=by obtain⟨t,f,o,p⟩:=l.out _ A.1;exact⟨o,p⟩
         have bp:T.heap.size+20<=b.heap.size:=(by have:=D.out.size;omega);have am:=a0.out;have aE:aC b.heap.size b L:=bm.trans (A.1.mono ar.out);have bq:Env b:=(an.out.below u.out).below D.out.below;have aF:aC b.heap.size L R:=((aK _ L).alloc aE.size _).trans bk
         have a6:lM b.heap.size v' (acc++[d]) R:=by rw[<-bc]at hr;rw[<-am.1];exact SY d _ _ (aB (oz am.2.1 A.1) _) (λm hm=>⟨aB (oz (am.2.2 m hm).1 A.1) _,aB (oz (am.2.2 m hm).2 A.1) _⟩) (aB A.2.1 _) (aB A.2.2 _) ar.out hr bl
         obtain⟨br,bs,rfl⟩:=a6.slice
         have b0:Hid (lM b.heap.size (.slice br (acc++[d]).length bs) (acc++[d]) R/\aC b.heap.size b R/\Forms T.heap.size R/\Env R):=
          ⟨a6,aE.trans aF,bo.1.below aF bp,bq.below (aE.trans aF)⟩
         clear hr bk bl A bm bo bp am aE bq aF a6;go_wp2;go_roundw
         case rel=>obtain⟨t,f,o,p⟩:=b0.out;have:=a1.out;have:=be.out;have:=bh.out;exact⟨a+(S.size+1),m,acc++[d],br,bs,ig _ iE,rfl,by rw[i.out];omega,by rw[i.out];omega,iI,t,f,o,p,q.out,ac.out⟩
         case measure=>simp[intOf];omega
        ·have q:=ag (I av K hm hd)
         have ca:(av:Int)<=65536:=(by have:=P.out;have aw:=ig aX this;simp at aw;omega);rw[<-P.out]at hd;have a2:=ag hd;have cb:(0:Int)<=av:=iE;clear v H I J j y z Q ai ad K hm hd bN
         go_wp2_with(first
          |(go_at_call 14;refine(wP _ 10 _ ab.out).mono ?_;rw[Z.out,<-aa.out];rintro e w3 ⟨rfl,k,rfl⟩)
          |(go_at_call 15;refine(SG pp S _ _ (l.out _ (below_drewN _ _ _)).2.2.1 (l.out _ (below_drewN _ _ _)).2.2.2 bg.out bf.out av a2.out).mono ?_;rintro e L ⟨op,bO,bR,a3,bS,bX,a4,tx,rfl,ak⟩;have al:=ag ((below_drewN wr.heap.size wr k).trans ak);clear ak))
         go_ret3;have g:=u.out.trans (D.out.below.mono u.out.size);obtain⟨t,f,o,p⟩:=l.out _ al.out;refine⟨(g.trans (f.mono g.size)).alloc (di (di g.size f.size) (au _)) _,?_⟩;rw[C.out,q.out];exact⟨_,rfl,lM.nil _ _⟩
    ·have cc:¬(a:Int)<s.size:=iE
     have b1:Hid (lY pp s.data.toList.length s.data.toList 0 []=(ah acc,0,0)):=by show _=_;rw[G,bJ iE,SH]
     have b2:Hid (lM b.heap.size (.slice E acc.length F) acc wr):=⟨M,O,U,V⟩;clear O U V bc G aM c;go_wp2;go_ret3;have g:=u.out.trans (D.out.below.mono u.out.size);have b3:=g.trans (ap.mono g.size);refine⟨b3,?_⟩;rw[C.out,b1.out];obtain⟨M,a5,aw,aD⟩:=b2.out;exact⟨_,rfl,M,a5,yF aw g.size,λm hm=>⟨yF (aD m hm).1 g.size,yF (aD m hm).2 g.size⟩⟩
 ·have C:Hid (jT pp s.data.toList=(af,0,6)):=by
   show _=_;unfold jT;rw[gY iE]
  have bv:¬(s.size:Int)<=65536:=iE
  have cd:65536<(s.size:Int):=iE
  have i:=ag c;clear c;go_enter dD,dw;go_wp2;go_ret3;exact⟨aK _ _,by rw[C.out];exact⟨_,rfl,lM.nil _ _⟩⟩
theorem Jh (s:ByteArray)(c:UInt8)(r:List UInt8)(w:aj)(hs:s.data.toList=c::r)(d:s.size<=100000000)(f:c≠46)(g:c≠123):
  aU aA 53 #[.string s] w λe w'=>e=.returned (.tuple #[.string ⟨#[]⟩,.string s,.bool ax])/\aC w.heap.size w w':=by
 have h:s.size=r.length+1:=by have:=ig aX hs;simpa using this
 have a:0<s.size:=iE
 have b:s[0]'a=c:=by
  have:s.data.toList.getD 0 0=s[0]'a:=lC s 0 a
  rw[<-this,hs];rfl
 have e1:(((s[0]'a).toNat:Int)==46)=ax:=by rw[b];simp only[iy,ne_eq];exact λe=>f (aI.1 (by have e:(46:UInt8).toNat=46:=rfl;omega))
 have j:(((s[0]'a).toNat:Int)!=123)=aJ:=by rw[b];simp only[bne_iff_ne,ne_eq];exact λe=>g (aI.1 (by have e:(123:UInt8).toNat=123:=rfl;omega))
 have i:=ag d;clear b hs d h;go_enter Tryz.func53,Tryz.ntmps53
 go_wp2_with(go_at_call 57;refine(I8 _ _ i.out).mono ?_;rintro e k ⟨rfl,rfl⟩)
 go_ret3;exact⟨rfl,aK _ _⟩
def yG (k i:Int)(key:ByteArray):ay:=.agg #[.int .i64 k,.int .i64 i,.string key]
theorem EJ {w a:aj}{v0 v1 v2:ay}{T:TypeId}(h:aC (w.alloc (.cells #[v0,v1,v2] T)).heap.size (w.alloc (.cells #[v0,v1,v2] T)) a):
  a.cell? ⟨w.heap.size,0,af⟩=ah v0/\a.cell? ⟨w.heap.size,1,af⟩=ah v1/\a.cell? ⟨w.heap.size,2,af⟩=ah v2/\a.frozen? ⟨w.heap.size,0,af⟩=ax/\a.frozen? ⟨w.heap.size,1,af⟩=ax/\a.frozen? ⟨w.heap.size,2,af⟩=ax/\w.heap.size<a.heap.size:=by
 have b:a.heap[w.heap.size]?=ah (.cells #[v0,v1,v2] T):=by rw[h.block w.heap.size iH];exact aP w _
 exact⟨ae b 0,ae b 1,ae b 2,aO b 0,aO b 1,aO b 2,(aQ.1 b).1⟩
theorem Ji (s:ByteArray)(w:aj)(c:UInt8)(r:List UInt8)(hs:s.data.toList=c::r)(hc:c≠91)(k rest:ByteArray)(ok:Bool)
  (f:∀w,aU aA 53 #[.string s] w λe w'=>e=.returned (.tuple #[.string k,.string rest,.bool ok])/\aC w.heap.size w w')
  (g:(ok&&bV rest.data.toList [64])=ax):
  aU aA 48 #[.string s,.bool ax] w λe w'=>e=.returned (.tuple #[yG 0 0 k,.string rest,.bool ok])/\aC w.heap.size w w':=by
 have j:s.size=r.length+1:=by have:=ig aX hs;simpa using this
 have a:0<s.size:=iE
 have h:s[0]'a=c:=by
  have:s.data.toList.getD 0 0=s[0]'a:=lC s 0 a
  rw[<-this,hs];rfl
 have e1:(((s[0]'a).toNat:Int)==91)=ax:=by rw[h];simp only[iy,ne_eq];exact λe=>hc (aI.1 (by have e:(91:UInt8).toNat=91:=rfl;omega))
 have l:=ag f
 have m:(ok=ax/\∃b,bV rest.data.toList [64]=b)\/(ok=aJ/\bV rest.data.toList [64]=ax):=by
  cases ok
  ·exact .inl ⟨rfl,_,rfl⟩
  ·exact .inr ⟨rfl,by simpa using g⟩
 clear h hs j f g hc;rcases m with⟨rfl,b,n⟩|⟨rfl,n⟩
 all_goals
  go_enter Tryz.func48,Tryz.ntmps48
  go_wp2_with(first
   |(go_at_call 53;refine(l.out _).mono ?_;rintro e q ⟨rfl,d⟩;obtain⟨t,u,x,y,z,A,B⟩:=EJ d;have o:=ag d;clear d)
   |(go_at_call 51;refine(Tryz.strings_CutPrefix _ _ _).mono ?_;rintro e C ⟨rfl,rfl⟩))
  refine aH (v:=.tuple #[yG 0 0 k,.string rest,.bool _]) (by simp only[results,Tryz.results48,yG];go_simp) rfl ⟨rfl,?_⟩;have hw:=((aK w.heap.size w).alloc (au _) (.cells #[.int .i64 0,.int .i64 0,.string ⟨#[]⟩] 101)).trans (o.out.mono iH);have i:=(((hw.setCell (p:=⟨w.heap.size,0,af⟩) (au _) (.int .i64 0)).setCell (p:=⟨w.heap.size,1,af⟩) (au _) (.int .i64 0)).setCell (p:=⟨w.heap.size,2,af⟩) (au _) (.string k));exact i.alloc i.size _
structure El where
 k:Int
 i:Int
 key:ByteArray
def El.cells (x:El):List ay:=[.int .i64 x.k,.int .i64 x.i,.string x.key]
def El.EK (x:El):List ay:=[.int .i64 x.i,.string x.key]
def yH (B:Nat)(v:ay)(l:List El)(w:aj):Prop:=w.ownsRow B 101 3 v l.length (l.flatMap El.cells)
def xx (B:Nat)(v:ay)(l:List El)(w:aj):Prop:=w.ownsRow B 99 2 v l.length (l.flatMap El.EK)
theorem S9:(Tryz.prog.info? 101).map (λi=>(i.zero,i.size,i.bytes))=ah (ah (.agg #[.int .i64 0,.int .i64 0,.string ⟨#[]⟩]),3,32):=iF
theorem Tc:(Tryz.prog.info? 99).map (λi=>(i.zero,i.size,i.bytes))=ah (ah (.agg #[.int .i64 0,.string ⟨#[]⟩]),2,24):=iF
theorem Td (a b:Int)(s:ByteArray):∀u∈(#[.int .i64 a,.int .i64 b,.string s]:Array ay).toList,u.oneCell'=aJ:=by intro u c;simp at c;rcases c with rfl|rfl|rfl<;>rfl
theorem Tf (b:Int)(s:ByteArray):∀u∈(#[.int .i64 b,.string s]:Array ay).toList,u.oneCell'=aJ:=by intro u a;simp at a;rcases a with rfl|rfl<;>rfl
def els (R:List UInt8->El×List UInt8×Bool)(l:List UInt8):Option (List El):=
 if l=[]then ah []else if a:(R l).2.2 =aJ/\(R l).2.1.length<l.length then(els R (R l).2.1).map ((R l).1 ::·)else af
termination_by l.length
decreasing_by exact a.2
def qi (R:List UInt8->El×List UInt8×Bool)(l:List UInt8):List El×Int:=
 if l.length>65536 then([],6)else match els R l with|none=>([],4)|some L=>if L.length>256 then([],7)else(L,0)
def yI (pat:Bool)(R:List UInt8->El×List UInt8×Bool)(D:List UInt8->Prop):Prop:=∀l,D l->l≠[]->
 (∀w,jM w->aU aA 48 #[.string ⟨l.toArray⟩,.bool pat] w λe w'=>e=.returned (.tuple #[.agg #[.int .i64 (R l).1.k,.int .i64 (R l).1.i,.string (R l).1.key],.string ⟨(R l).2.1.toArray⟩,.bool (R l).2.2])/\aC w.heap.size w w')/\
 ((R l).2.2 =aJ->(R l).2.1.length<l.length/\D (R l).2.1)
theorem Jj (R:List UInt8->El×List UInt8×Bool):els R []=ah []:=by unfold els;rw[gY rfl]
theorem Jk {R:List UInt8->El×List UInt8×Bool}{l:List UInt8}(h:l≠[])(a:(R l).2.2 =aJ)(b:(R l).2.1.length<l.length):els R l=(els R (R l).2.1).map ((R l).1 ::·):=by
 conv=>lhs;unfold els
 rw[gZ h,dif_pos ⟨a,b⟩]
theorem Jl {R:List UInt8->El×List UInt8×Bool}{l:List UInt8}(h:l≠[])(a:(R l).2.2 =ax):els R l=af:=by
 conv=>lhs;unfold els
 rw[gZ h,dif_neg (by rw[a];simp)]
def Ti (R:List UInt8->El×List UInt8×Bool)(D:List UInt8->Prop)(a:List UInt8)(w wr:aj)(l:List UInt8)(L:List El)(b:ay):Prop:=
 D l/\yH w.heap.size b L wr/\aC w.heap.size w wr/\els R a=(els R l).map (L++·)/\L.length+l.length<=a.length
def strLen:ay->Nat
 |.string s=>s.size
 |_=>0
def Tj (B:Nat)(r:List El×Int)(e:dC)(w':aj):Prop:=∃v,e=.returned (.tuple #[v,.int .i64 r.2])/\yH B v r.1 w'
theorem Jm {B:Nat}{v:ay}{L:List El}{w:aj}(h:yH B v L w):∃a b,v=.slice a L.length b:=by
 rcases h.2 with⟨rfl,c⟩|⟨g,cap,d,rfl,_⟩
 ·rw[c];exact⟨_,_,rfl⟩
 ·exact⟨_,_,rfl⟩
theorem BZ (B:Nat)(w:aj):yH B (.slice af 0 0) [] w:=⟨rfl,.inl ⟨rfl,rfl⟩⟩
theorem Tm {B:Nat}{v:ay}{L:List El}{w:aj}(h:xx B v L w):∃a b,v=.slice a L.length b:=by
 rcases h.2 with⟨rfl,c⟩|⟨g,cap,d,rfl,_⟩
 ·rw[c];exact⟨_,_,rfl⟩
 ·exact⟨_,_,rfl⟩
theorem rowP_nil (B:Nat)(w:aj):xx B (.slice af 0 0) [] w:=⟨rfl,.inl ⟨rfl,rfl⟩⟩
theorem EL (l:List UInt8):(⟨l.toArray⟩:ByteArray).size=l.length:=by simp[ByteArray.size]
theorem Tn (pat:Bool)(R:List UInt8->El×List UInt8×Bool)(D:List UInt8->Prop)(hR:yI pat R D)(a:List UInt8)(O:D a)(w:aj)(P:jM w)(ab:a.length<=9223372036854775807):
  aU aA 42 #[.string ⟨a.toArray⟩,.bool pat] w λe w'=>aC w.heap.size w w'/\Tj w.heap.size (qi R a) e w':=by
 obtain⟨s,hs⟩:∃s:ByteArray,s=⟨a.toArray⟩:=⟨_,rfl⟩;have Q:s.data.toList=a:=by rw[hs]
 have k:s.size=a.length:=by rw[hs,EL]
 rw[<-hs];rw[<-k]at ab;have v:=ag Q;have ac:=ag k;have ad:=ag hR;have ai:=ag O;have ak:=ag P;clear hR O P hs Q;by_cases aR:s.size<=65536
 ·have i:Hid (qi R a=match els R a with|none=>([],4)|some L=>if L.length>256 then([],7)else(L,0)):=by
   show _=_;unfold qi;rw[gZ iE]
  have al:(s.size:Int)<=65536:=iE
  clear k;go_enter dH,dG;go_wp2
  go_loopw [0,6] (λy am wr=>∃(S:ByteArray) (L:List El) (z:Option Addr) (A:Nat),y=.string S/\am=.slice z L.length A/\Ti R D a w wr S.data.toList L (.slice z L.length A)) (λy _ _=>strLen y)
  case atStart=>exact⟨s,[],af,0,rfl,rfl,by rw[v.out];exact ai.out,BZ _ _,aK _ _,by rw[v.out];simp,by rw[v.out];simp⟩
  case round=>
   obtain⟨S,L,z,A,rfl,rfl,an⟩:=hrel;obtain⟨l,g,b,c,T⟩:=an;have m:S.data.toList.length=S.size:=iH;by_cases hS:S.size=0
   ·obtain rfl:S=⟨#[]⟩:=by
     have:S.data.size=0:=hS;exact ext_list (by simp[bn this])
    have d:Hid (els R a=ah L):=by show _=_;rw[c,Jj];simp
    have C:=ag g;by_cases U:L.length>256
    ·have ao:((256:Int)<(L.length:Int)):=iE
     clear c g hS m U;go_wp2;go_ret2;refine⟨b,?_⟩;rw[i.out,d.out];simp only[];rw[gY iE];exact⟨_,rfl,BZ _ _⟩
    ·have ao:¬((256:Int)<(L.length:Int)):=iE
     have a0:(L.length:Int)<=256:=iE;clear c g hS m U;go_wp2;go_ret2;refine⟨b,?_⟩;rw[i.out,d.out];simp only[];rw[gZ iE];exact⟨_,rfl,C.out⟩
   ·have j:S.data.toList≠[]:=λh=>hS (by rw[<-m,h];rfl)
    have ap:¬S.toList=[]:=λe=>by have:=(bH S).1 e;subst this;exact hS rfl
    have a1:(!S.toList.isEmpty)=aJ:=by
     cases h:S.toList with
     |nil=>exact absurd h ap
     |cons x r=>rfl
    obtain⟨o,E⟩:=ad.out S.data.toList l j;have F:(⟨S.data.toList.toArray⟩:ByteArray)=S:=ext_list rfl;rw[F]at o;have G:=ag (o wr (ak.out.below b));have C:=ag g;have p:=ag b;have a2:=ag l;cases f:(R S.data.toList).2.2 with
    |false=>
     have d:Hid (els R a=af):=by show _=_;rw[c,Jl j f];rfl
     have q:=ag f;clear c g b hS m o F E j f l
     go_wp2_with(go_at_call 48;refine G.out.mono ?_;rw[q.out];rintro e V ⟨rfl,t⟩)
     go_ret2;refine⟨?_,?_⟩
     ·have W:=p.out.trans (t.mono p.out.size)
      exact W.alloc W.size _
     ·rw[i.out,d.out]
      exact⟨_,rfl,BZ _ _⟩
    |true=>
     obtain⟨u,Y⟩:=E f
     have d:Hid (els R a=(els R (R S.data.toList).2.1).map ((L++[(R S.data.toList).1])++·)):=by show _=_;rw[c,Jk j f u];simp[Option.map_map,Function.comp_def]
     have q:=ag f;generalize aq:R S.data.toList=X at G d q u Y;obtain⟨x,rest,ok⟩:=X;obtain⟨H,I,xs⟩:=x;have a3:L.length<=65536:=(by have:=ac.out;omega);have Z:=ag u;have ar:=ag T;have a4:w.heap.size<=wr.heap.size:=b.size;clear c g b hS o F E j f l aq u T
     go_wp2_with(first
      |(go_at_call 48;refine G.out.mono ?_;rw[q.out];rintro e V ⟨rfl,t⟩;have J:=ag t;clear t)
      |(at_builtin;(refine EG (B:=w.heap.size) (xs:=L.flatMap El.cells) (n:=L.length) Tryz.underlying95 S9 rfl iG iG _ rfl _ _ rfl rfl (aB (oz C.out J.out) _) _ rfl (Td _ _ _) (V.heap.size+1) _ (World.EH _ _) rfl ?c1 ?c2 ?_)))
     case c1=>omega
     case c2=>
      have:=J.out.size
      simp;omega
     intro v' aD hr aa aE
     have K:yH w.heap.size v' (L++[⟨H,I,xs⟩]) aD:=by unfold yH;rw[aV,bu];exact hr
     obtain⟨aF,aG,rfl⟩:=Jm K;have M:=p.out.trans (J.out.mono p.out.size);have aL:=ag ((M.alloc M.size (.cells #[.int .i64 H,.int .i64 I,.string xs] 101)).trans aa);have aM:=ag K;clear hr aa aE K M;go_wp2;go_roundw
     case rel=>refine⟨⟨rest.toArray⟩,L++[⟨H,I,xs⟩],aF,aG,rfl,rfl,?_⟩;refine⟨Y,aM.out,aL.out,d.out,?_⟩;have N:=Z.out;have a5:=ar.out;simp only[aV,List.length_cons,List.length_nil]at N⊢;omega
     case measure=>have N:=Z.out;simp only[strLen,EL]at N⊢;omega
 ·have i:Hid (qi R a=([],6)):=by
   show _=_;unfold qi;rw[gY iE]
  have al:65536<(s.size:Int):=iE
  clear k;go_enter dH,dG;go_wp2;go_ret2;exact⟨aK _ _,by rw[i.out];exact⟨_,rfl,BZ _ _⟩⟩
def Tq (B:Nat)(r:List El×Int)(e:dC)(w':aj):Prop:=∃v,e=.returned (.tuple #[v,.int .i64 r.2])/\xx B v r.1 w'
theorem Tt {L:List El}{k:Nat}(h:k<L.length):∀j x,L[k].cells[j]?=ah x->(L.flatMap El.cells)[k*3+j]?=ah x:=by
 intro j x hx;have a:j<3:=(bI.1 hx).1
 induction L generalizing k with
 |nil=>simp at h
 |cons y L b=>
  cases k with
  |zero=>simp only[List.getElem_cons_zero]at hx;simp only[dm,Nat.zero_mul,Nat.zero_add];rw[List.getElem?_append_left (show j<y.cells.length from a)];exact hx
  |succ k=>simp only[List.getElem_cons_succ]at hx;have c:k<L.length:=(by simpa using h);simp only[dm];rw[List.getElem?_append_right (show y.cells.length<=(k+1)*3+j by show 3<=_;omega)];have e:(k+1)*3+j - y.cells.length=k*3+j:=(by show(k+1)*3+j - 3=_;omega);rw[e];exact b c hx
theorem Jn (R:List UInt8->El×List UInt8×Bool)(D:List UInt8->Prop)(hR:yI ax R D)(a:List UInt8)(F:D a)(w:aj)(G:jM w)(H:a.length<=9223372036854775807):
  aU aA 37 #[.string ⟨a.toArray⟩] w λe w'=>aC w.heap.size w w'/\Tq w.heap.size (qi R a) e w':=by
 have p:=ag (Tn ax R D hR a F w G H)
 have I:(qi R a).1.length<=256:=by
  unfold qi;split
  ·simp
  ·split
   ·simp
   ·split
    ·simp
    ·simp only;omega
 generalize qi R a=V at p I;obtain⟨L,c⟩:=V;simp only at I;clear hR F G H;generalize(⟨a.toArray⟩:ByteArray)=s at p;go_enter Tryz.func37,Tryz.ntmps37
 go_wp2_with(go_at_call 42;refine p.out.mono ?_;rintro e b ⟨J,aD,rfl,d⟩;obtain⟨T,aE,rfl⟩:=Jm d;have U:=ag d;have W:=ag J;clear d J)
 go_loopw [6,16] (λX q wr=>∃(k:Nat) (f:Option Addr) (i:Nat),k<=L.length/\q=.int .i64 k/\X=.slice f k i/\xx b.heap.size (.slice f k i) (L.take k) wr/\aC b.heap.size b wr) (λ_ q _=>L.length - (intOf q).toNat)
 case atStart=>exact⟨0,af,0,bP _,rfl,rfl,rowP_nil _ _,aK _ _⟩
 case round=>
  obtain⟨k,f,i,aF,rfl,rfl,hp,l⟩:=hrel;by_cases r:k<L.length
  ·have d:=U.out
   rcases d.2 with⟨aG,t⟩|⟨g,cap,Y,hv,t,u,Z,aa,ab,K⟩
   ·exfalso
    have:L.length=0:=t;omega
   ·have ac:T=ah ⟨g,0,af⟩:=by injection hv
    subst ac;have ad:g<b.heap.size:=(aQ.1 u).1;have M:wr.heap[g]?=ah (.cells Y 101):=by rw[l.block g ad];exact u
    have m:∀j x,L[k].cells[j]?=ah x->wr.cell? ⟨g,k*3+j,af⟩=ah x:=λj x hx=>by rw[ae M];have aL:j<3:=(bI.1 hx).1;have:=Tt r j x hx;rw[<-K,List.getElem?_take_of_lt iE]at this;simpa using this
    have N:=m 0 _ rfl;have v:=m 1 _ rfl;have y:=m 2 _ rfl;rw[Nat.add_zero]at N;have O:L.take (k+1)=L.take k++[L[k]]:=List.take_succ_eq_append_getElem r;have aM:(k:Int)<(L.length:Int):=iE;have z:(L.take k).length=k:=iI
    have ai:Hid (wr.ownsRow b.heap.size 99 2 (.slice f k i) k ((L.take k).flatMap El.EK)):=by have h:=hp;unfold xx at h;rw[z]at h;exact h
    have P:=ag l;have Q:=ag O;have ak:=ag z;generalize L[k]=x at N v y Q;obtain⟨al,am,xs⟩:=x;have aR:k<=256:=iE;clear d hv t u Z aa ab K m M hp l O z
    go_wp2_with(at_builtin;(refine EG (B:=b.heap.size) (xs:=(L.take k).flatMap El.EK) (n:=k) Tryz.underlying83 Tc rfl iG iG _ rfl _ _ rfl rfl (aB ai.out _) _ rfl (Tf _ _) (wr.heap.size+1) _ (World.EH _ _) rfl ?c1 ?c2 ?_))
    case c1=>omega
    case c2=>
     have:=P.out.size
     simp;omega
    intro v' an hr S ao
    have o:xx b.heap.size v' (L.take (k+1)) an:=by unfold xx;rw[Q.out,aV,bu,ak.out];exact hr
    obtain⟨ap,aq,rfl⟩:=Tm o;have A:(L.take (k+1)).length=k+1:=iI;rw[A]at o;have C:=P.out;have ar:=ag ((C.alloc C.size (.cells #[.int .i64 al,.int .i64 am,.string xs] 101)).trans S);have av:=ag o;rw[A];clear hr S ao o C A;go_wp2;go_roundw
    case rel=>exact⟨k+1,ap,aq,r,by go_num,rfl,av.out,ar.out⟩
    case measure=>simp[intOf];omega
  ·obtain rfl:k=L.length:=iE
   have aw:=ag hp;clear hp;go_wp2;go_ret2;have E:=W.out;refine⟨E.trans (l.mono E.size),_,rfl,?_⟩;have h:=aw.out;rw[List.take_length]at h;exact yF h E.size
def lS (t:List UInt8):Bool:=t==[46,120]
theorem agc (c:UInt8):∀(l r:List UInt8),c∉l->iV c (l++c::r)=l
 |[],r,_=>by simp[iV]
 |x::l,r,h=>by
  simp only[List.mem_cons,not_or]at h;have a:=agc c l r h.2;have hx:(x !=c)=aJ:=by simpa using λe=>h.1 (Eq.symm e)
  show List.takeWhile (·!=c) (x::(l++c::r))=x::l;rw[List.takeWhile_cons];simp only[hx,↓reduceIte];exact ig _ a
theorem Jo:∀l:List UInt8,(∀b∈l,b.toNat<128)->chk l=aJ
 |[],_=>by unfold chk;rfl
 |c::r,h=>by rw[Ny (h c (List.mem_cons_self ..))];exact Jo r λb a=>h b (List.mem_cons_of_mem _ a)
theorem zO (pp:List UInt8->Bool)(l:List UInt8)(h:(l.all λb=>decide (b.toNat<128))=aJ)(c:l.length<=65536):jT pp l=lY pp l.length l 0 []:=by unfold jT;rw[gZ iE,NC _ (Jo l λb a=>by simpa using List.all_eq_true.1 h b a)]
def yJ:List UInt8:=[108,111,97,100,32,97,32,106,115,111,110,32,34,123,92,34,120,92,34,58,32,49,125,34,10,115,101,116,32,97,32,34,46,120,34,32,34,50,34]
def Cb:List UInt8:=[108,111,97,100,32,97,32,120,109,108,32,34,34]
def Cc:List UInt8:=[103,101,116,32,97,32,34,120,34]
def Ce:List UInt8:=[112,114,105,110,116,32,97,32,98]
def Cf:List UInt8:=[112,114,105,110,116]
theorem Tu:jT lS yJ=(ah [(1,⟨[⟨#[97]⟩],[0],⟨#[123,34,120,34,58,32,49,125]⟩⟩),(8,⟨[⟨#[97]⟩,⟨#[46,120]⟩],[],⟨#[50]⟩⟩)],0,0):=by rw[zO _ _ iG iG];rfl
theorem Tv:jT lS Cb=(af,7,4):=by rw[zO _ _ iG iG];rfl
theorem Tz:jT lS Cc=(af,6,4):=by rw[zO _ _ iG iG];rfl
theorem TA:jT lS Ce=(af,7,4):=by rw[zO _ _ iG iG];rfl
theorem TB:jT lS Cf=(af,5,4):=by rw[zO _ _ iG iG];rfl
theorem Jp {R:List UInt8->El×List UInt8×Bool}{D:List UInt8->Prop}(hR:yI ax R D){l:List UInt8}(a:D l)(b:l.length<=9223372036854775807){L:List El}{c:Int}(h:qi R l=(L,c)){ok:Bool}(d:(c !=0)=!ok):qK l ok:=by intro w f;refine(Jn R D hR l a w f b).mono ?_;rintro e w' ⟨g,v,rfl,hr⟩;rw[h];exact⟨v,c,rfl,d,g⟩
def rA:List UInt8->El×List UInt8×Bool:=λ_=>(⟨0,0,⟨#[34,120,34]⟩⟩,[],aJ)
def rB:List UInt8->El×List UInt8×Bool:=λ_=>(⟨0,0,⟨#[]⟩⟩,[120],ax)
theorem TC:lF aJ [120]=1:=iG
theorem readA:yI ax rA (λl=>l=[46,120]\/l=[]):=by
 intro l a b;rcases a with rfl|rfl
 ·refine⟨λw _=>?_,λ_=>⟨iG,.inr rfl⟩⟩
  refine Ji ⟨#[46,120]⟩ w 46 [120] rfl iG ⟨#[34,120,34]⟩ ⟨#[]⟩ aJ (λw=>?_) iG;have:=I7 ⟨#[46,120]⟩ [120] w rfl iG;rw[TC]at this;exact this
 ·exact absurd rfl b
theorem TD:yI ax rB (λl=>l=[120]):=by intro l a b;subst a;refine⟨λw _=>?_,λh=>by cases h⟩;exact Ji ⟨#[120]⟩ w 120 [] rfl iG ⟨#[]⟩ ⟨#[120]⟩ ax (λw=>Jh ⟨#[120]⟩ 120 [] w rfl iG iG iG) iG
theorem TE:qK [46,120] aJ:=by
 refine Jp readA (.inl rfl) iG (L:=[⟨0,0,⟨#[34,120,34]⟩⟩]) (c:=0) ?_ rfl;unfold qi;rw[gZ iG,Jk iG rfl iG];have e:els rA (rA [46,120]).2.1 =ah []:=Jj rA;rw[e]
 rfl
theorem TF:qK [120] ax:=by refine Jp TD rfl iG (L:=[]) (c:=4) ?_ rfl;unfold qi;rw[gZ iG,Jl iG rfl]
theorem TG:sV lS yJ.length yJ:=by
 refine λ_=>⟨λ_=>?_,λ_=>⟨λ_=>?_,?_⟩⟩
 ·show nP lS _ [.n,.f,.t] 4
  refine λ_ _ _=>⟨(λh=>by cases h),λ_=>?_⟩
  refine λ_ _ _=>⟨(λh=>by cases h),λ_=>?_⟩
  exact λ_ _ _=>⟨(λh=>by cases h),λ_=>trivial⟩
 ·show nP lS _ [.n,.p,.t] 3
  refine λ_ _ _=>⟨(λh=>by cases h),λ_=>?_⟩
  refine λ_ _ _=>⟨λ_=>TE,λ_=>?_⟩
  exact λ_ _ _=>⟨(λh=>by cases h),λ_=>trivial⟩
 ·intro h;cases h
theorem TI:sV lS Cb.length Cb:=by
 refine λ_=>⟨λ_=>?_,λh=>by cases h⟩
 show nP lS _ [.n,.f,.t] 4;refine λ_ _ _=>⟨(λh=>by cases h),λ_=>?_⟩
 refine λ_ _ _=>⟨(λh=>by cases h),λ_=>?_⟩
 exact λ_ _ _=>⟨(λh=>by cases h),λ_=>trivial⟩
theorem TK:sV lS Cc.length Cc:=by
 refine λ_=>⟨λ_=>?_,λh=>by cases h⟩
 show nP lS _ [.n,.p] 3;refine λ_ _ _=>⟨(λh=>by cases h),λ_=>?_⟩
 exact λ_ _ _=>⟨λ_=>TF,λ_=>trivial⟩
theorem TL:sV lS Ce.length Ce:=by
 refine λ_=>⟨λ_=>?_,λh=>by cases h⟩
 show nP lS _ [.n] 5;exact λ_ _ _=>⟨(λh=>by cases h),λ_=>trivial⟩
theorem TN:sV lS Cf.length Cf:=by
 refine λ_=>⟨λ_=>?_,λh=>by cases h⟩
 show nP lS _ [.n] 5;exact λ_ _ _=>⟨(λh=>by cases h),λ_=>trivial⟩
