import Derived.Test.YthcalnnipjflkaaGreatDoorP31
import Derived.Maps.OwnOps
open Go.Lib renaming cell_of_heap -> ae, hid -> ah, alloc_old -> aN, frozen_of_heap -> aS
open Option renaming none -> af, some -> ag, map_eq_some_iff -> bG
open Go renaming World -> aj, Value -> ay, bodyPost_ret -> aA, heap_alloc_new -> aK, wpList_lookup_own_ok -> aV, Calls -> bz, wpQuiet_nil -> bF, MemPlace -> dm
open Nat renaming le_refl -> au, le_of_eq -> bQ, le_trans -> bV, zero_le -> bW, succ_ne_zero -> cZ
open Go.Proofs.Tryz renaming results15 -> ax, prog -> aI, underlying9 -> aU, underlying41 -> bu, ntmps15 -> bP, func15 -> bY, ntmps7 -> bZ, func7 -> dh
open Bool renaming false -> az, true -> aP
open Go.World.ownsRow renaming alloc -> aB, kept -> dn, lt -> dw
open List renaming length_drop -> aC, take_of_length_le -> aT, drop_zero -> aW, setIfInBounds_toArray -> aX, drop_eq_nil_of_le -> bC, length -> bH, drop_drop -> bI, take_succ_cons -> bJ, drop_succ_cons -> bK, set_cons_succ -> bT, set_cons_zero -> bU, take_zero -> di
open Go.RowKit renaming Below -> aH
open UInt8 renaming toNat_inj -> aJ
open ByteArray renaming data_extract -> aO
open Go.RowKit.Below renaming refl -> aQ
open Array renaming getElem?_eq_some_iff -> aY, toList_inj -> cu
open Option.some renaming injEq -> aZ
open Go.Maps renaming string_keyed -> bn
open Go.World renaming drewN -> bD
set_option linter.all false
set_option maxHeartbeats 4000000
set_option maxRecDepth 100000
namespace Go.Proofs.YthcalnnipjflkaaGreatDoor
open Go.RowKit
open Go.Lib hiding intOf
def nz (j:Nat):Bool:=j==12
theorem RQ {v:List ay}{x op b n c:DataW Unit}{ps:List dm}(h:yD v=ag (.agg [op,b,n,c,x],ps)):∃a b' n' d m,v=[.int .i64 a,.slice (ag ⟨b',0,af⟩) n' d,.bool m]/\op=.lit (.int .i64 a)/\b=.lit (.int .i64 (b':Int))/\n=.lit (.int .i64 (n':Int))/\c=.lit (.int .i64 (d:Int))/\x=.lit (.bool m):=by
 unfold yD at h;split at h
 ·rename_i a b' o sp n' d m
  split at h
  ·rename_i hc
   obtain⟨rfl,e⟩:=hc;obtain rfl:sp=af:=by simpa using e
   simp only[aZ,Prod.mk.injEq,DataW.agg.injEq,List.cons.injEq,and_true]at h;obtain⟨⟨f,e,g,i,j⟩,-⟩:=h;exact⟨a,b',n',d,m,rfl,f.symm,e.symm,g.symm,i.symm,j.symm⟩
  ·cases h
 ·split at h
  ·simp at h
  ·cases h
 ·cases h
theorem I9 {a:Nat}{v:ay}{ps:List dm}{j:Nat}(p:j<15)(h:qL (H:=Unit) v=ag (mQ a j,ps)):v=.agg #[.int .i64 (jC j),.slice (ag ⟨a+5+j,0,af⟩) (jc j).length (jc j).length,.bool (nz j)]:=by
 cases v with
 |agg c=>
  have d:yD c.toList=ag (mQ a j,ps):=h
  have key:∀(op:Int) (b:Nat) (n:Nat) (m:Bool),mQ (H:=Unit) a j=.agg [.lit (.int .i64 op),.lit (.int .i64 (b:Int)),.lit (.int .i64 (n:Int)),.lit (.int .i64 (n:Int)),.lit (.bool m)]->Value.agg c=.agg #[.int .i64 op,.slice (ag ⟨b,0,af⟩) n n,.bool m]:=by
   intro op b n m e;rw[e]at d;obtain⟨q,b',n',r,m',o,f,g,i,k,l⟩:=RQ d;simp only[DataW.lit.injEq,Lit.int.injEq,true_and,Lit.bool.injEq,Int.ofNat_inj]at f g i k l;subst f g i k l
   congr 1
   apply cu.1;exact o
  rcases j with _|_|_|_|_|_|_|_|_|_|_|_|_|_|_|j
  case succ=>omega
  all_goals exact key _ _ _ _ rfl
 |_=>cases h
def jQ (pp:List UInt8->Bool)(l:List UInt8):List AK->Nat->Cx->Option Cx×Int
 |[],a,c=>if a<l.length then(af,a)else(ag c,-1)
 |K::b,a,c=>if a=l.length then(af,a)else if l.getD a 0≠32 then(af,a)else if a+1=l.length then(af,(a:Int)+1)
  else if oV pp K (l.drop (a+1))then jQ pp l b (a+1+(ny pp K (l.drop (a+1))).toNat) (kY pp K (l.drop (a+1)) c)else(af,(a:Int)+1)
def nP (pp:List UInt8->Bool)(l:List UInt8):List AK->Nat->Prop
 |[],_=>True
 |K::b,a=>a<l.length->l.getD a 0=32->a+1<l.length->(K=.p->qK (lX (l.drop (a+1))) (pp (lX (l.drop (a+1)))))/\(oV pp K (l.drop (a+1))=aP->nP pp l b (a+1+(ny pp K (l.drop (a+1))).toNat))
theorem RS (l:List UInt8):∀p,uq l=ag p->p.2.length<=l.length:=by
 induction hn:l.length using Nat.strongRecOn generalizing l with
 |_ n a=>
  intro p hp
  have go:∀(r:List UInt8) (f:List UInt8×List UInt8->List UInt8×List UInt8),(∀q,(f q).2 =q.2)->r.length<n->(uq r).map f=ag p->p.2.length<=n:=by
   intro r f hf hr he;cases h:uq r with
   |none=>rw[h]at he;cases he
   |some q=>
    rw[h]at he;obtain rfl:f q=p:=by simpa using he
    rw[hf];have:=a _ hr r rfl q h;omega
  cases l with
  |nil=>cases hp
  |cons c r=>
   subst hn;unfold uq at hp;split at hp
   ·obtain rfl:=Option.some.inj hp;simp
   split at hp
   ·cases hp
   split at hp
   ·exact go r (λp=>(_::p.1,p.2)) (λ_=>rfl) iH hp
   split at hp
   ·cases hp
   rename_i e r2;split at hp
   ·exact go r2 (λp=>(_::p.1,p.2)) (λ_=>rfl) iI hp
   split at hp
   ·exact go r2 (λp=>(_::p.1,p.2)) (λ_=>rfl) iI hp
   split at hp
   ·exact go r2 (λp=>(_::p.1,p.2)) (λ_=>rfl) iI hp
   split at hp
   ·exact go r2 (λp=>(_::p.1,p.2)) (λ_=>rfl) iI hp
   split at hp
   ·split at hp
    ·split at hp
     ·cases hp
     ·exact go _ (λp=>(_::p.1,p.2)) (λ_=>rfl) iI hp
    ·cases hp
   ·cases hp
theorem RU (l:List UInt8):0<=sK l/\sK l<=l.length:=by
 unfold sK;cases h:rE l with
 |none=>simp
 |some p=>
  unfold rE at h;split at h
  ·have:=RS _ p h
   rw[aC]at this;simp only;omega
  ·cases h
theorem zK (pp:List UInt8->Bool)(K:AK)(r:List UInt8):0<=ny pp K r/\ny pp K r<=r.length:=by
 have b:=qE 32 r;have a:=RU r;cases K<;>simp only[ny]
 ·omega
 ·split<;>omega
 ·split<;>omega
 ·exact a
def Ja (B:Nat)(op:Int)(r:Option Cx×Int)(e:Ending)(w':aj):Prop:=
 ∃a b d f g h tx,e=.returned (.tuple #[.agg #[.int .i64 op,.slice a b d,.slice f g h,.string tx],.int .i64 r.2])/\∀c,r.1 =ag c->tx=c.tx/\qc B (.slice a b d) c.ns w'/\qg B (.slice f g h) c.fs w'
theorem BP (s:ByteArray)(n:Nat):s.extract 0 n=⟨(s.data.toList.take n).toArray⟩:=ext_list (by simp[aO])
theorem ED (w:aj):(zeroValue 69).run aI w=.ok (.agg #[.int .i64 0,.slice af 0 0,.bool az]) w:=iF
theorem zL {j:Nat}(a:j<15):(jc j).length<=4:=by
 rcases j with _|_|_|_|_|_|_|_|_|_|_|_|_|_|_|j
 case succ=>omega
 all_goals decide
theorem sU {w:aj}{B e n:Nat}{v:ay}{xs:List ay}(h:w.ownsRow B e 1 v n xs):∃a k c,v=.slice a k c:=by
 rcases h.2 with⟨rfl,_⟩|⟨g,cap,b,rfl,_⟩
 ·exact⟨_,_,_,rfl⟩
 ·exact⟨_,_,_,rfl⟩
structure xw (pp:List UInt8->Bool)(l:List UInt8)(w:aj)(FB j L:Nat)(wr:aj)(k a:Nat)(cx:Cx):Prop where
 hk:k<=(jc j).length
 ha:a<=l.length
 below:aH w.heap.size w wr
 res:wr.heap[w.heap.size]?=ag (cmd 0 (.slice af 0 0) (.slice af 0 0) ⟨#[]⟩)
 og:wr.heap[w.heap.size+1]?=ag (.cells #[.int .i64 (jC j),.slice (ag ⟨FB+5+j,0,af⟩) (jc j).length (jc j).length,.bool (nz j)] 69)
 cm:zJ w.heap.size (w.heap.size+1+1) (jC j) cx wr
 eq:jQ pp l (jc j) L ⟨[],[],⟨#[]⟩⟩=jQ pp l ((jc j).drop k) a cx
 ok:nP pp l ((jc j).drop k) a
 ln:cx.ns.length<=k
 lf:cx.fs.length<=k
theorem xw.at_end {pp:List UInt8->Bool}{l:List UInt8}{w:aj}{c j L:Nat}{wr:aj}{k a:Nat}{b:Cx}(h:xw pp l w c j L wr k a b)(hk:(jc j).length<=k):
  jQ pp l (jc j) L ⟨[],[],⟨#[]⟩⟩=if a<l.length then(af,(a:Int))else(ag b,-1):=by
 rw[h.eq,bC hk];rfl
theorem RV (pp:List UInt8->Bool)(l:List UInt8)(w:aj)(a j L n:Nat)(b:L<=l.length)(c:nP pp l (jc j) L):
  xw pp l w a j L ((((w.alloc (cmd 0 (.slice af 0 0) (.slice af 0 0) ⟨#[]⟩)).drewN n).alloc (.cells #[.int .i64 (jC j),.slice (ag ⟨a+5+j,0,af⟩) (jc j).length (jc j).length,.bool (nz j)] 69)).alloc (cmd (jC j) (.slice af 0 0) (.slice af 0 0) ⟨#[]⟩)) 0 L ⟨[],[],⟨#[]⟩⟩:=by
 have d:((w.alloc (cmd 0 (.slice af 0 0) (.slice af 0 0) ⟨#[]⟩)).drewN n).heap.size=w.heap.size+1:=by simp[bD]
 have e:(((w.alloc (cmd 0 (.slice af 0 0) (.slice af 0 0) ⟨#[]⟩)).drewN n).alloc (.cells #[.int .i64 (jC j),.slice (ag ⟨a+5+j,0,af⟩) (jc j).length (jc j).length,.bool (nz j)] 69)).heap.size=w.heap.size+1+1:=by simp[bD]
 refine⟨bW _,b,?_,?_,?_,⟨.slice af 0 0,.slice af 0 0,iE,?_,⟨rfl,.inl ⟨rfl,rfl⟩⟩,⟨rfl,.inl ⟨rfl,rfl⟩⟩⟩,rfl,c,au _,au _⟩
 ·exact((((aQ _ w).alloc (au _) _).trans (below_drewN _ _ _)).alloc iE _).alloc iE _
 ·rw[aN _ _ _ iE,aN _ _ _ iE]
  exact aK w _
 ·rw[aN _ _ _ iE,<-d]
  exact aK _ _
 ·rw[<-e]
  exact aK _ _
theorem BQ {w:aj}{B e n b k:Nat}{v u:ay}{xs:List ay}{a:Array ay}{T:TypeId}{c:Nat×Nat}(h:w.ownsRow B e 1 v n xs)(d:w.heap[b]?=ag (.cells a T c))(f:T≠e):(w.setCell ⟨b,k,af⟩ u).ownsRow B e 1 v n xs:=
 dn h (row:=ag b) ⟨rfl,rfl,rfl,by simp[World.setCell],λi _ hi=>Below.heap_setCell _ _ _ _ (λe=>hi (by simp[e]))⟩ (.inr (Lib.ownBlock_ne h d f))
def stored (wr:aj)(b:Nat)(v0 v1 v2 a:ay):aj:=(((wr.setCell ⟨b,0,af⟩ v0).setCell ⟨b,1,af⟩ v1).setCell ⟨b,2,af⟩ v2).setCell ⟨b,3,af⟩ a
theorem BR {w:aj}{B e n b:Nat}{v v0 v1 v2 d:ay}{xs:List ay}{f:Array ay}{T:TypeId}{g:Nat×Nat}(h:w.ownsRow B e 1 v n xs)(a:w.heap[b]?=ag (.cells f T g))(c:T≠e):(stored w b v0 v1 v2 d).ownsRow B e 1 v n xs:=
 BQ (BQ (BQ (BQ h a c) (tZ a _) c) (tZ (tZ a _) _) c) (tZ (tZ (tZ a _) _) _) c
theorem oh {w wr:aj}{B b:Nat}(h:aH B w wr)(a:B<=b)(v0 v1 v2 c:ay):aH B w (stored wr b v0 v1 v2 c):=
 (((h.setCell (p:=⟨b,0,af⟩) a _).setCell (p:=⟨b,1,af⟩) a _).setCell (p:=⟨b,2,af⟩) a _).setCell (p:=⟨b,3,af⟩) a _
theorem xw.BU {pp:List UInt8->Bool}{l:List UInt8}{w:aj}{c j L:Nat}{wr:aj}{k a:Nat}{b:Cx}(h:xw pp l w c j L wr k a b)(hk:k<(jc j).length):
  jQ pp l (jc j) L ⟨[],[],⟨#[]⟩⟩=jQ pp l ((jc j)[k]::(jc j).drop (k+1)) a b/\nP pp l ((jc j)[k]::(jc j).drop (k+1)) a:=by
 rw[h.eq];have:=h.ok;rw[List.drop_eq_getElem_cons hk]at this⊢;exact⟨rfl,this⟩
theorem zM (pp:List UInt8->Bool)(l:List UInt8)(K:AK)(b:List AK)(a:Nat)(c:Cx):jQ pp l (K::b) a c=(if a=l.length then((af:Option Cx),(a:Int))else if l.getD a 0≠32 then((af:Option Cx),(a:Int))else if a+1=l.length then((af:Option Cx),(a:Int)+1)else if oV pp K (l.drop (a+1))then jQ pp l b (a+1+(ny pp K (l.drop (a+1))).toNat) (kY pp K (l.drop (a+1)) c)else((af:Option Cx),(a:Int)+1)):=rfl
theorem EE (pp:List UInt8->Bool)(K:AK)(r:List UInt8)(c:Cx):(kY pp K r c).ns.length<=c.ns.length+1/\(kY pp K r c).fs.length<=c.fs.length+1:=by
 cases K<;>simp only[kY]
 ·simp
 ·split<;>simp
 ·split<;>simp
 ·simp
theorem EF (l:List UInt8)(h:l.length<=maxLen):keyOf aI 9 (.string ⟨l.toArray⟩)=ag (.string l):=by
 have:(⟨l.toArray⟩:ByteArray).size<=maxLen:=by simpa[ByteArray.size]using h
 simp[keyOf,mapKey,aU,this]
theorem RX (pp:List UInt8->Bool)(s:ByteArray)(w:aj)(m j:Nat)(hF:Forms m w)(Z:Env w)(hs:s.size<=35184372088000)(G:wu (iV 32 s.data.toList)=ag j)(a3:j≠12)(aa:nP pp s.data.toList (jc j) (iV 32 s.data.toList).length)
  (ab:0<w.heap.size/\1<w.heap.size/\2<w.heap.size):
  bz aI 15 #[.string s,.map (ag (m+4))] w λe w'=>aH w.heap.size w w'/\Ja w.heap.size (jC j) (jQ pp s.data.toList (jc j) (iV 32 s.data.toList).length ⟨[],[],⟨#[]⟩⟩) e w':=by
 have z:=(BO G).1;have hcut:=qE 32 s.data.toList;have I:s.data.toList.length=s.size:=iH
 have a4:s.extract 0 (iV 32 s.data.toList).length=⟨(iV 32 s.data.toList).toArray⟩:=by rw[BP,zf]
 have ac:=BN (H:=Unit) m (iV 32 s.data.toList) (.agg [.lit (.int .i64 0),.lit (.bool az)]) 15;have ad:sQ (iV 32 s.data.toList) 15=ag j:=G;rw[ad]at ac;obtain⟨ai,ak⟩:=ac;have a5:Hid (s.size<=maxLen):=by show s.size<=maxLen;unfold maxLen;omega
 have a6:Hid ((iV 32 s.data.toList).length<=maxLen):=by show(iV 32 s.data.toList).length<=maxLen;unfold maxLen;omega
 have E:=ah hF;have a7:=ah Z;have a8:=ah aa;have a9:=ah ai;have HAS:=ah ak;have J:=ah ab;generalize ba:(iV 32 s.data.toList).length=L at*;have bv:(L:Int)<=s.size:=iE
 clear hF Z aa ai ak ab G ad;go_enter bY,bP;have bb:=ah (EF (iV 32 s.data.toList) (by rw[ba];exact a6.out))
 go_wp2_with(first
  |(go_at_call 31;refine(zg _ _ a5.out).mono ?_;rintro e bw ⟨rfl,n,rfl⟩)
  |(at_lookup;refine aV _ rfl _ _ 41 rfl 9 69 (bn aU) bu qL (ED _) (.agg [.lit (.int .i64 0),.lit (.bool az)]) [] rfl (m+4) 15 (qM m 15) rfl (E.out.own.alloc _) _ _ rfl bb.out ?_))
 intro v ps hv;rw[a9.out]at hv;obtain rfl:=I9 z hv;rw[HAS.out];clear hv;go_wp2
 go_loopw [6,10] (λat_ i wr=>∃(k a:Nat) (p:Cx),i=.int .i64 k/\at_=.int .i64 a/\xw pp s.data.toList w m j L wr k a p) (λ_ i _=>(jc j).length - (intOf i).toNat)
 case atStart=>exact⟨0,L,⟨[],[],⟨#[]⟩⟩,rfl,rfl,RV pp s.data.toList w m j L n hcut a8.out⟩
 case round=>
  obtain⟨k,a,p,rfl,rfl,hinv⟩:=hrel;have hm:nz j=az:=by unfold nz;simpa using a3
  obtain⟨M,O,g⟩:=hinv.cm;obtain⟨na,r,t,rfl⟩:=sU g.names;obtain⟨u,fn,x,rfl⟩:=sU g.fmts;have al:wr.cell? ⟨w.heap.size+1+1,0,af⟩=ag (.int .i64 (jC j)):=(ae g.blk 0).trans rfl;have am:wr.cell? ⟨w.heap.size+1+1,1,af⟩=ag (.slice na r t):=(ae g.blk 1).trans rfl;have an:wr.cell? ⟨w.heap.size+1+1,2,af⟩=ag (.slice u fn x):=(ae g.blk 2).trans rfl;have ao:wr.cell? ⟨w.heap.size+1+1,3,af⟩=ag (.string p.tx):=(ae g.blk 3).trans rfl;have ap:wr.cell? ⟨w.heap.size,0,af⟩=ag (.int .i64 0):=(ae hinv.res 0).trans rfl;have r1:wr.cell? ⟨w.heap.size,1,af⟩=ag (.slice af 0 0):=(ae hinv.res 1).trans rfl;have r2:wr.cell? ⟨w.heap.size,2,af⟩=ag (.slice af 0 0):=(ae hinv.res 2).trans rfl;have aq:wr.cell? ⟨w.heap.size,3,af⟩=ag (.string ⟨#[]⟩):=(ae hinv.res 3).trans rfl;have ar:∀o,wr.frozen? ⟨w.heap.size,o,af⟩=az:=λo=>aS hinv.res o
  have bc:wr.cell? ⟨w.heap.size+1,0,af⟩=ag (.int .i64 (jC j)):=(ae hinv.og 0).trans rfl;have av:wr.cell? ⟨w.heap.size+1,1,af⟩=ag (.slice (ag ⟨m+5+j,0,af⟩) (jc j).length (jc j).length):=(ae hinv.og 1).trans rfl;have bd:wr.cell? ⟨w.heap.size+1,2,af⟩=ag (.bool (nz j)):=(ae hinv.og 2).trans rfl;have d:=ah hinv;have aw:=ah g;have bx:=hinv.hk;have be:=hinv.ha;rw[I]at be;clear hinv g a4;by_cases P:k<(jc j).length
  ·have bf:(k:Int)<((jc j).length:Int):=iE
   obtain⟨l,q⟩:=d.out.BU P;generalize hK:(jc j)[k]=K at l q;by_cases ha:a=s.size
   ·have f:Hid (jQ pp s.data.toList (jc j) L ⟨[],[],⟨#[]⟩⟩=(af,(a:Int))):=by
     show _=_;rw[l];unfold jQ;rw[gY iE]
    have e1:((a:Int)==(s.size:Int))=aP:=iI;clear l q ha hK;go_wp2;refine aA (v:=.tuple #[.agg #[.int .i64 (jC j),.slice na r t,.slice u fn x,.string p.tx],.int .i64 a]) (by simp only[results,ax];go_simp) rfl ⟨oh d.out.below (au _) _ _ _ _,_,_,_,_,_,_,_,by rw[f.out],λc hc=>by rw[f.out]at hc;cases hc⟩
   have e1:((a:Int)==(s.size:Int))=az:=iI;have bA:(a:Int)<s.size:=iE;have Q:a<s.size:=iE;have A:s.data.toList.getD a 0=s[a]:=lC s a Q;by_cases hc:s[a]=32
   ·have e3:((s[a].toNat:Int)!=32)=az:=by rw[hc];rfl
    by_cases bg:a+1=s.size
    ·have f:Hid (jQ pp s.data.toList (jc j) L ⟨[],[],⟨#[]⟩⟩=(af,(a:Int)+1)):=by
      show _=_;rw[l];unfold jQ;rw[gZ iE,gZ (by rw[A];simpa using hc),gY iE]
     have bh:((a:Int)+1==(s.size:Int))=aP:=iI;clear l q ha hK hc A;go_wp2;refine aA (v:=.tuple #[.agg #[.int .i64 (jC j),.slice na r t,.slice u fn x,.string p.tx],.int .i64 ((a:Int)+1)]) (by simp only[results,ax];go_simp) rfl ⟨oh d.out.below (au _) _ _ _ _,_,_,_,_,_,_,_,by rw[f.out],λc hc=>by rw[f.out]at hc;cases hc⟩
    ·have R:a+1<s.size:=iE
     have bh:((a:Int)+1==(s.size:Int))=az:=iI;have S:=Ez z P;rw[hK]at S;have aD:Hid (w.heap[m+5+j]?=ag (.cells (rG j) 66)):=E.out.rows j z;have bi:=ah S;have U:=ah (And.intro l q);have bj:=ah R;clear l q S ha hK hc A bg R;go_wp2;have R:=bj.out;have e5:(a:Int)+1<=s.size:=iE;have e6:((a:Int)+1).toNat=a+1:=iE;have e7:(0:Int)<=(a:Int)+1:=iE;have bB:min (k:Int) (((jc j).length:Int) - 1)=k:=iE;have aE:(jc j).length<=4:=zL z;have bE:IntKind.i64.wrap (((jc j).length:Int) - 1)=((jc j).length:Int) - 1:=IntWalk.i64_in _ iE;have bL:(0:Int)<=k:=iE;clear aE
     refine Mix.Ec (aF:=?_) (aG:=?_) 14 5 _ (λW=>W.heap[w.heap.size+1]?=ag (.cells #[.int .i64 (jC j),.slice (ag ⟨m+5+j,0,af⟩) (jc j).length (jc j).length,.bool (nz j)] 69)/\W.heap[m+5+j]?=ag (.cells (rG j) 66))
      (After pp s.data.toList w wr m j (kY pp K (s.data.toList.drop (a+1)) p)) (.tuple #[.int .i64 (ny pp K (s.data.toList.drop (a+1))),.bool (oV pp K (s.data.toList.drop (a+1)))]) (sS K) #[.pointer (ag ⟨w.heap.size+1+1,0,af⟩),.string (s.extract (a+1) s.size)]
      iF rfl iF iF iF rfl rfl iF iF iF iF ?_ ?_ ?_ ?_ ?_ ?_ ?_ ?_ ?_
     rotate_left 2
     ·intro F
      exact⟨d.out.og,(d.out.below.block _ (by have:=E.out.lt;omega)).trans aD.out⟩
     ·intro W F h;exact h.drewN F
     ·intro W h
      exact⟨h.keep _ _ _ _ d.out.og iE iG iG,(h.below.block _ (by have:=E.out.lt;omega)).trans aD.out⟩
     ·rintro ρ ⟨aL,aM⟩
      have av:ρ.cell? ⟨w.heap.size+1,1,af⟩=ag (.slice (ag ⟨m+5+j,0,af⟩) (jc j).length (jc j).length):=(ae aL 1).trans rfl
      have g1:ρ.cell? ⟨m+5+j,k*2,af⟩=ag (.func (.func (sS K)) #[] #[]):=by rw[Nat.mul_comm];exact(ae aM (2*k)).trans bi.out
      clear aL aM;simp only[bJ,di]
      repeat(go_big_quiet_step(fail))
      apply bF;exact rfl
     ·rfl
     ·intro W
      go_simp;exact EC K _ W
     ·intro F
      have V:(s.extract (a+1) s.size).data.toList=s.data.toList.drop (a+1):=by simp[aO];exact aT (bQ (by rw[aC,I]))
      obtain⟨M,O,B⟩:=d.out.cm;have aE:=zL z;have bM:=d.out.ln;have bN:=d.out.lf
      have C:s.data.toList.getD a 0=32:=by rw[lC s a Q];have e:((s[a].toNat:Int)!=32)=az:=e3;simp only[bne_eq_false_iff_eq]at e;exact aJ.1 (by have e:(32:UInt8).toNat=32:=rfl;omega)
      have aR:=U.out.2 iE C iE;refine(Ey pp K (s.extract (a+1) s.size) (wr.drewN F) w.heap.size (w.heap.size+1+1) (jC j) p ⟨M,O,B.base,B.blk,B.names,B.fmts⟩ d.out.below.size iI (a7.out.below' (d.out.below.trans (below_drewN _ _ _)) J.out.1 J.out.2.1 J.out.2.2) iE iE (λhp _=>?_) (λhp _=>?_)).mono ?_
      ·rw[V];exact aR.1 hp
      ·rw[V];exact⟨_,aR.1 hp⟩
      ·rintro e W ⟨v,rfl,rfl,a0,bk,a1⟩
       rw[V]at a1⊢;exact⟨rfl,d.out.below.trans ((below_drewN _ _ _).trans a0),λb bl T bm bo bp bq br=>bk b bl T bm bo bp bq br,a1⟩
     ·intro ρ
      simp only[bK,aW,Act.put,aX,bT,bU]
      repeat(go_big_quiet_step(fail))
      apply bF;exact rfl
     ·intro W y
      have hcut:=zK pp K (s.data.toList.drop (a+1));rw[aC,I]at hcut;obtain⟨N,X⟩:=Int.eq_ofNat_of_zero_le hcut.1;have bO:a+1+N<=s.size:=iE
      have C:s.data.toList.getD a 0=32:=by rw[lC s a Q];have e:((s[a].toNat:Int)!=32)=az:=e3;simp only[bne_eq_false_iff_eq]at e;exact aJ.1 (by have e:(32:UInt8).toNat=32:=rfl;omega)
      have l:=U.out.1;have q:=(U.out.2 iE C iE).2;rw[zM,gZ iE,gZ (by simpa using C),gZ iE,X]at l;rw[X]at q⊢;clear hcut X C;have g0:W.heap[w.heap.size]?=ag (cmd 0 (.slice af 0 0) (.slice af 0 0) ⟨#[]⟩):=y.keep _ _ _ _ d.out.res iE iG iG;have g2:W.heap[w.heap.size+1]?=ag (.cells #[.int .i64 (jC j),.slice (ag ⟨m+5+j,0,af⟩) (jc j).length (jc j).length,.bool (nz j)] 69):=y.keep _ _ _ _ d.out.og iE iG iG;cases D:oV pp K (s.data.toList.drop (a+1))
      ·rw[gZ (by rw[D];decide)]at l
       obtain⟨M,O,g⟩:=y.cm;obtain⟨na,r,t,rfl⟩:=sU g.names;obtain⟨u,fn,x,rfl⟩:=sU g.fmts;generalize kY pp K (s.data.toList.drop (a+1)) p=a2 at y g;clear al am an ao ap r1 r2 aq ar bc av bd q D;have al:W.cell? ⟨w.heap.size+1+1,0,af⟩=ag (.int .i64 (jC j)):=(ae g.blk 0).trans rfl;have am:W.cell? ⟨w.heap.size+1+1,1,af⟩=ag (.slice na r t):=(ae g.blk 1).trans rfl;have an:W.cell? ⟨w.heap.size+1+1,2,af⟩=ag (.slice u fn x):=(ae g.blk 2).trans rfl;have ao:W.cell? ⟨w.heap.size+1+1,3,af⟩=ag (.string a2.tx):=(ae g.blk 3).trans rfl;have ap:W.cell? ⟨w.heap.size,0,af⟩=ag (.int .i64 0):=(ae g0 0).trans rfl;have r1:W.cell? ⟨w.heap.size,1,af⟩=ag (.slice af 0 0):=(ae g0 1).trans rfl;have r2:W.cell? ⟨w.heap.size,2,af⟩=ag (.slice af 0 0):=(ae g0 2).trans rfl;have aq:W.cell? ⟨w.heap.size,3,af⟩=ag (.string ⟨#[]⟩):=(ae g0 3).trans rfl;have ar:∀o,W.frozen? ⟨w.heap.size,o,af⟩=az:=λo=>aS g0 o
       have bs:=ah y;have f:=ah l;clear y g g0 g2 l;go_wp2;refine aA (v:=.tuple #[.agg #[.int .i64 (jC j),.slice na r t,.slice u fn x,.string a2.tx],.int .i64 ((a:Int)+1)]) (by simp only[results,ax];go_simp) rfl ⟨oh bs.out.below (au _) _ _ _ _,_,_,_,_,_,_,_,by rw[f.out],λc hc=>by rw[f.out]at hc;cases hc⟩
      ·rw[gY D]at l
       have Y:(kY pp K (s.data.toList.drop (a+1)) p).ns.length<=k+1/\(kY pp K (s.data.toList.drop (a+1)) p).fs.length<=k+1:=by have bR:=EE pp K (s.data.toList.drop (a+1)) p;have a0:=d.out.ln;have B:=d.out.lf;exact⟨iE,iE⟩
       have bS:(k:Int)<=4:=(by have:=zL z;omega);have bt:Hid (xw pp s.data.toList w m j L W (k+1) (a+1+N) (kY pp K (s.data.toList.drop (a+1)) p)):=⟨P,iE,y.below,g0,g2,y.cm,l,q D,Y.1,Y.2⟩;clear y g0 g2 l q Y D;go_wp2;go_roundw
       case rel=>exact⟨k+1,a+1+N,_,ig _ iE,ig _ iE,bt.out⟩
       case measure=>show(jc j).length - ((k:Int)+1).toNat<(jc j).length - (k:Int).toNat;omega
   ·have f:Hid (jQ pp s.data.toList (jc j) L ⟨[],[],⟨#[]⟩⟩=(af,(a:Int))):=by
     show _=_;rw[l];unfold jQ;rw[gZ iE,gY (by rw[A];simpa using hc)]
    have e3:((s[a].toNat:Int)!=32)=aP:=by simp only[bne_iff_ne,ne_eq];exact λe=>hc (aJ.1 (by have e:(32:UInt8).toNat=32:=rfl;omega))
    clear l q ha hK hc A;go_wp2;refine aA (v:=.tuple #[.agg #[.int .i64 (jC j),.slice na r t,.slice u fn x,.string p.tx],.int .i64 a]) (by simp only[results,ax];go_simp) rfl ⟨oh d.out.below (au _) _ _ _ _,_,_,_,_,_,_,_,by rw[f.out],λc hc=>by rw[f.out]at hc;cases hc⟩
  ·have bf:((k:Int)<((jc j).length:Int))=False:=iI
   have f:=ah (d.out.at_end iE);by_cases ha:a<s.size
   ·rw[gY iE]at f
    have e1:(a:Int)<s.size:=iE;go_wp2;refine aA (v:=.tuple #[.agg #[.int .i64 (jC j),.slice na r t,.slice u fn x,.string p.tx],.int .i64 a]) (by simp only[results,ax];go_simp) rfl ⟨oh d.out.below (au _) _ _ _ _,_,_,_,_,_,_,_,by rw[f.out],λc hc=>by rw[f.out]at hc;cases hc⟩
   ·rw[gZ iE]at f
    have e1:¬(a:Int)<s.size:=iE;go_wp2;refine aA (v:=.tuple #[.agg #[.int .i64 (jC j),.slice na r t,.slice u fn x,.string p.tx],.int .i64 (-1)]) (by simp only[results,ax];go_simp) rfl ⟨oh d.out.below (au _) _ _ _ _,_,_,_,_,_,_,_,by rw[f.out],λc hc=>?_⟩;rw[f.out]at hc;obtain rfl:p=c:=by simpa using hc
    exact⟨rfl,BR aw.out.names d.out.res iG,BR aw.out.fmts d.out.res iG⟩
theorem RY {v:ay}{ps:List dm}(h:qL (H:=Unit) v=ag (.agg [.lit (.int .i64 0),.lit (.bool az)],ps)):v=.agg #[.int .i64 0,.slice af 0 0,.bool az]:=by
 cases v with
 |agg b=>
  have a:yD (H:=Unit) b.toList=ag (.agg [.lit (.int .i64 0),.lit (.bool az)],ps):=h;unfold yD at a;split at a
  ·split at a<;>simp at a
  ·rename_i op n c m d
   split at a
   ·rename_i hc
    obtain⟨rfl,rfl⟩:=hc;simp only[aZ,Prod.mk.injEq,DataW.agg.injEq,List.cons.injEq,and_true,DataW.lit.injEq,Lit.int.injEq,true_and,Lit.bool.injEq]at a;obtain⟨⟨rfl,rfl⟩,-⟩:=a
    congr 1
    apply cu.1;exact d
   ·cases a
  ·cases a
 |_=>cases h
theorem RZ (s:ByteArray)(w:aj)(a:Nat)(hF:Forms a w)(hs:s.size<=35184372088000)(b:wu (iV 32 s.data.toList)=af):
  bz aI 15 #[.string s,.map (ag (a+4))] w λe w'=>aH w.heap.size w w'/\e=.returned (.tuple #[.agg #[.int .i64 0,.slice af 0 0,.slice af 0 0,.string ⟨#[]⟩],.int .i64 0]):=by
 have hcut:=qE 32 s.data.toList;have p:s.data.toList.length=s.size:=iH
 have q:s.extract 0 (iV 32 s.data.toList).length=⟨(iV 32 s.data.toList).toArray⟩:=by rw[BP,zf]
 have c:=BN (H:=Unit) a (iV 32 s.data.toList) (.agg [.lit (.int .i64 0),.lit (.bool az)]) 15;have d:sQ (iV 32 s.data.toList) 15=af:=b;rw[d]at c;obtain⟨f,g⟩:=c;have i:Hid (s.size<=maxLen):=by show s.size<=maxLen;unfold maxLen;omega
 have j:Hid ((iV 32 s.data.toList).length<=maxLen):=by show(iV 32 s.data.toList).length<=maxLen;unfold maxLen;omega
 have k:=ah hF;have l:=ah f;have HAS:=ah g;generalize m:(iV 32 s.data.toList).length=L at*;have r:(L:Int)<=s.size:=iE
 clear hF f g b d;go_enter bY,bP;have o:=ah (EF (iV 32 s.data.toList) (by rw[m];exact j.out))
 go_wp2_with(first
  |(go_at_call 31;refine(zg _ _ i.out).mono ?_;rintro e t ⟨rfl,n,rfl⟩)
  |(at_lookup;refine aV _ rfl _ _ 41 rfl 9 69 (bn aU) bu qL (ED _) (.agg [.lit (.int .i64 0),.lit (.bool az)]) [] rfl (a+4) 15 (qM a 15) rfl (k.out.own.alloc _) _ _ rfl o.out ?_))
 intro v ps hv;rw[l.out]at hv;obtain rfl:=RY hv;rw[HAS.out];clear hv;go_wp2;have h:=oh (((aQ w.heap.size w).alloc (au _) (.cells #[.int .i64 0,.slice af 0 0,.slice af 0 0,.string ⟨#[]⟩] 38)).trans (below_drewN _ _ n)) (au _) (.int .i64 0) (.slice af 0 0) (.slice af 0 0) (.string ⟨#[]⟩);refine aA (v:=.tuple #[.agg #[.int .i64 0,.slice af 0 0,.slice af 0 0,.string ⟨#[]⟩],.int .i64 0]) (by simp only[results,ax];go_simp) rfl ⟨h.alloc h.size _,rfl⟩
def zN (l:List UInt8):Nat->Nat->Nat
 |0,_=>0
 |f+1,a=>if a<l.length then zN l f (a+1+(iV 32 (l.drop (a+1))).length)+1 else 0
def wB (l:List UInt8)(f a:Nat):List AK:=List.replicate (zN l f a) .n
def oq (l:List UInt8)(a:Nat):List AK:=.n::wB l 63 (a+1+(iV 32 (l.drop (a+1))).length)
def wC (l:List UInt8)(L k a:Nat):List AK:=if k=0 then oq l L else wB l (64 - k) a
theorem BV (l:List UInt8)(L k a:Nat):wC l L (k+1) a=wB l (63 - k) a:=by
 unfold wC;rw[gZ (cZ k)]
 congr 1
 omega
theorem Si (l:List UInt8)(L k a:Nat)(c:k=0->a=L)(h:k=0\/(a<l.length/\k<64)):wC l L k a=.n::wB l (63 - k) (a+1+(iV 32 (l.drop (a+1))).length):=by
 by_cases b:k=0
 ·subst b
  obtain rfl:=c rfl
  rfl
 ·obtain⟨d,e⟩:=h.resolve_left b
  unfold wC;rw[gZ b];obtain⟨f,hf⟩:∃f,64 - k=f+1:=⟨63 - k,iE⟩;have:63 - k=f:=iE
  rw[hf,this];unfold wB
  conv=>lhs;unfold zN
  rw[gY d]
  rfl
theorem Sj (l:List UInt8)(L k a:Nat)(c:0<k)(h:¬(a<l.length/\k<64)):wC l L k a=[]:=by
 unfold wC;rw[gZ iE];unfold wB
 have:zN l (64 - k) a=0:=by
  cases hf:64 - k with
  |zero=>rfl
  |succ f=>unfold zN;exact gZ (λb=>h ⟨b,iE⟩)
 rw[this]
 rfl
theorem Sl (k a n:Nat):k=0\/(0<k/\a<n/\k<64)\/(0<k/\¬(a<n/\k<64)):=iE
structure wE (pp:List UInt8->Bool)(l:List UInt8)(w:aj)(FB j L:Nat)(wr:aj)(k a:Nat)(cx:Cx):Prop where
 hk:k<=64
 h0:k=0->a=L
 ha:a<=l.length
 below:aH w.heap.size w wr
 res:wr.heap[w.heap.size]?=ag (cmd 0 (.slice af 0 0) (.slice af 0 0) ⟨#[]⟩)
 og:wr.heap[w.heap.size+1]?=ag (.cells #[.int .i64 (jC j),.slice (ag ⟨FB+5+j,0,af⟩) (jc j).length (jc j).length,.bool (nz j)] 69)
 cm:zJ w.heap.size (w.heap.size+1+1) (jC j) cx wr
 eq:jQ pp l (oq l L) L ⟨[],[],⟨#[]⟩⟩=jQ pp l (wC l L k a) a cx
 ok:nP pp l (wC l L k a) a
 ln:cx.ns.length<=k
 lf:cx.fs.length<=k
theorem wE.at_end {pp:List UInt8->Bool}{l:List UInt8}{w:aj}{c j L:Nat}{wr:aj}{k a:Nat}{b:Cx}(h:wE pp l w c j L wr k a b)(hk:0<k)(he:¬(a<l.length/\k<64)):
  jQ pp l (oq l L) L ⟨[],[],⟨#[]⟩⟩=if a<l.length then(af,(a:Int))else(ag b,-1):=by
 rw[h.eq,Sj l L k a hk he];rfl
theorem wE.BU {pp:List UInt8->Bool}{l:List UInt8}{w:aj}{c j L:Nat}{wr:aj}{k a:Nat}{b:Cx}(h:wE pp l w c j L wr k a b)(hk:k=0\/(a<l.length/\k<64)):
  jQ pp l (oq l L) L ⟨[],[],⟨#[]⟩⟩=jQ pp l (.n::wB l (63 - k) (a+1+(ny pp .n (l.drop (a+1))).toNat)) a b/\nP pp l (.n::wB l (63 - k) (a+1+(ny pp .n (l.drop (a+1))).toNat)) a:=by
 have e:(ny pp .n (l.drop (a+1))).toNat=(iV 32 (l.drop (a+1))).length:=by simp only[ny,Int.toNat_natCast]
 rw[h.eq,e];have:=h.ok;rw[Si l L k a h.h0 hk]at this⊢;exact⟨rfl,this⟩
theorem Sm (pp:List UInt8->Bool)(l:List UInt8)(w:aj)(a j L n:Nat)(b:L<=l.length)(c:nP pp l (oq l L) L):
  wE pp l w a j L ((((w.alloc (cmd 0 (.slice af 0 0) (.slice af 0 0) ⟨#[]⟩)).drewN n).alloc (.cells #[.int .i64 (jC j),.slice (ag ⟨a+5+j,0,af⟩) (jc j).length (jc j).length,.bool (nz j)] 69)).alloc (cmd (jC j) (.slice af 0 0) (.slice af 0 0) ⟨#[]⟩)) 0 L ⟨[],[],⟨#[]⟩⟩:=by
 have d:((w.alloc (cmd 0 (.slice af 0 0) (.slice af 0 0) ⟨#[]⟩)).drewN n).heap.size=w.heap.size+1:=by simp[bD]
 have e:(((w.alloc (cmd 0 (.slice af 0 0) (.slice af 0 0) ⟨#[]⟩)).drewN n).alloc (.cells #[.int .i64 (jC j),.slice (ag ⟨a+5+j,0,af⟩) (jc j).length (jc j).length,.bool (nz j)] 69)).heap.size=w.heap.size+1+1:=by simp[bD]
 refine⟨bW _,λ_=>rfl,b,?_,?_,?_,⟨.slice af 0 0,.slice af 0 0,iE,?_,⟨rfl,.inl ⟨rfl,rfl⟩⟩,⟨rfl,.inl ⟨rfl,rfl⟩⟩⟩,rfl,c,au _,au _⟩
 ·exact((((aQ _ w).alloc (au _) _).trans (below_drewN _ _ _)).alloc iE _).alloc iE _
 ·rw[aN _ _ _ iE,aN _ _ _ iE]
  exact aK w _
 ·rw[aN _ _ _ iE,<-d]
  exact aK _ _
 ·rw[<-e]
  exact aK _ _
theorem Sr (pp:List UInt8->Bool)(s:ByteArray)(w:aj)(l j:Nat)(hF:Forms l w)(aa:Env w)(hs:s.size<=35184372088000)(J:wu (iV 32 s.data.toList)=ag j)(ab:j=12)(ac:nP pp s.data.toList (oq s.data.toList (iV 32 s.data.toList).length) (iV 32 s.data.toList).length)
  (ad:0<w.heap.size/\1<w.heap.size/\2<w.heap.size):
  bz aI 15 #[.string s,.map (ag (l+4))] w λe w'=>aH w.heap.size w w'/\Ja w.heap.size (jC j) (jQ pp s.data.toList (oq s.data.toList (iV 32 s.data.toList).length) (iV 32 s.data.toList).length ⟨[],[],⟨#[]⟩⟩) e w':=by
 have E:=(BO J).1;have hcut:=qE 32 s.data.toList;have K:s.data.toList.length=s.size:=iH
 have a9:s.extract 0 (iV 32 s.data.toList).length=⟨(iV 32 s.data.toList).toArray⟩:=by rw[BP,zf]
 have ai:=BN (H:=Unit) l (iV 32 s.data.toList) (.agg [.lit (.int .i64 0),.lit (.bool az)]) 15;have ak:sQ (iV 32 s.data.toList) 15=ag j:=J;rw[ak]at ai;obtain⟨al,am⟩:=ai;have ba:Hid (s.size<=maxLen):=by show s.size<=maxLen;unfold maxLen;omega
 have bb:Hid ((iV 32 s.data.toList).length<=maxLen):=by show(iV 32 s.data.toList).length<=maxLen;unfold maxLen;omega
 have M:=ah ab;clear ab;have F:=ah hF;have bc:=ah aa;have bd:=ah ac;have be:=ah al;have HAS:=ah am;have O:=ah ad;generalize bf:(iV 32 s.data.toList).length=L at*;have bM:(L:Int)<=s.size:=iE
 clear hF aa ac al am ad J ak;go_enter bY,bP;have bg:=ah (EF (iV 32 s.data.toList) (by rw[bf];exact bb.out))
 go_wp2_with(first
  |(go_at_call 31;refine(zg _ _ ba.out).mono ?_;rintro e bN ⟨rfl,n,rfl⟩)
  |(at_lookup;refine aV _ rfl _ _ 41 rfl 9 69 (bn aU) bu qL (ED _) (.agg [.lit (.int .i64 0),.lit (.bool az)]) [] rfl (l+4) 15 (qM l 15) rfl (F.out.own.alloc _) _ _ rfl bg.out ?_))
 intro v ps hv;rw[be.out]at hv;obtain rfl:=I9 E hv;rw[HAS.out];clear hv;go_wp2
 go_loopw [6,10] (λat_ i wr=>∃(k a:Nat) (m:Cx),i=.int .i64 k/\at_=.int .i64 a/\wE pp s.data.toList w l j L wr k a m) (λ_ i _=>64 - (intOf i).toNat)
 case atStart=>exact⟨0,L,⟨[],[],⟨#[]⟩⟩,rfl,rfl,Sm pp s.data.toList w l j L n hcut bd.out⟩
 case round=>
  obtain⟨k,a,m,rfl,rfl,hinv⟩:=hrel;have hm:nz j=aP:=by unfold nz;have:=M.out;simpa using this
  have z:(jc j).length=1:=by rw[M.out];rfl
  have bO:(0:Int)<((jc j).length:Int):=iE
  have bh:0<(jc j).length:=iE
  have bi:=ah z;obtain⟨P,Q,g⟩:=hinv.cm;obtain⟨na,r,t,rfl⟩:=sU g.names;obtain⟨u,fn,x,rfl⟩:=sU g.fmts;have an:wr.cell? ⟨w.heap.size+1+1,0,af⟩=ag (.int .i64 (jC j)):=(ae g.blk 0).trans rfl;have ao:wr.cell? ⟨w.heap.size+1+1,1,af⟩=ag (.slice na r t):=(ae g.blk 1).trans rfl;have ap:wr.cell? ⟨w.heap.size+1+1,2,af⟩=ag (.slice u fn x):=(ae g.blk 2).trans rfl;have aq:wr.cell? ⟨w.heap.size+1+1,3,af⟩=ag (.string m.tx):=(ae g.blk 3).trans rfl;have ar:wr.cell? ⟨w.heap.size,0,af⟩=ag (.int .i64 0):=(ae hinv.res 0).trans rfl;have r1:wr.cell? ⟨w.heap.size,1,af⟩=ag (.slice af 0 0):=(ae hinv.res 1).trans rfl;have r2:wr.cell? ⟨w.heap.size,2,af⟩=ag (.slice af 0 0):=(ae hinv.res 2).trans rfl;have av:wr.cell? ⟨w.heap.size,3,af⟩=ag (.string ⟨#[]⟩):=(ae hinv.res 3).trans rfl;have aw:∀o,wr.frozen? ⟨w.heap.size,o,af⟩=az:=λo=>aS hinv.res o
  have bj:wr.cell? ⟨w.heap.size+1,0,af⟩=ag (.int .i64 (jC j)):=(ae hinv.og 0).trans rfl;have aD:wr.cell? ⟨w.heap.size+1,1,af⟩=ag (.slice (ag ⟨l+5+j,0,af⟩) (jc j).length (jc j).length):=(ae hinv.og 1).trans rfl;have bk:wr.cell? ⟨w.heap.size+1,2,af⟩=ag (.bool (nz j)):=(ae hinv.og 2).trans rfl;have d:=ah hinv;have aE:=ah g;have bR:=hinv.hk;have bl:=hinv.ha;rw[K]at bl;clear hinv g a9;rcases Sl k a s.size with aL|⟨bm,bS,aM⟩|⟨bm,hex⟩
  case' inl=>have aR:(k:Int)<((jc j).length:Int):=iE;have a0:Hid (k=0\/(a<s.data.toList.length/\k<64)):=.inl aL;have G:Hid (k<64):=(by show k<64;omega);clear aL z
  case' inr.inl=>have aR:((k:Int)<((jc j).length:Int))=False:=iI;have bX:(k:Int)<64:=iE;have a0:Hid (k=0\/(a<s.data.toList.length/\k<64)):=.inr ⟨iE,aM⟩;have G:Hid (k<64):=aM;clear z
  case inr.inr=>
   have aR:((k:Int)<((jc j).length:Int))=False:=iI;have f:=ah (d.out.at_end iE iE);clear z;by_cases ha:a<s.size
   ·rw[gY iE]at f
    have e1:(a:Int)<s.size:=iE;have b0:((k:Int)<64)=False:=iI;go_wp2;refine aA (v:=.tuple #[.agg #[.int .i64 (jC j),.slice na r t,.slice u fn x,.string m.tx],.int .i64 a]) (by simp only[results,ax];go_simp) rfl ⟨oh d.out.below (au _) _ _ _ _,_,_,_,_,_,_,_,by rw[f.out],λc hc=>by rw[f.out]at hc;cases hc⟩
   ·rw[gZ iE]at f
    have e1:¬(a:Int)<s.size:=iE;go_wp2;refine aA (v:=.tuple #[.agg #[.int .i64 (jC j),.slice na r t,.slice u fn x,.string m.tx],.int .i64 (-1)]) (by simp only[results,ax];go_simp) rfl ⟨oh d.out.below (au _) _ _ _ _,_,_,_,_,_,_,_,by rw[f.out],λc hc=>?_⟩;rw[f.out]at hc;obtain rfl:m=c:=by simpa using hc
    exact⟨rfl,BR aE.out.names d.out.res iG,BR aE.out.fmts d.out.res iG⟩
  all_goals
   obtain⟨p,q⟩:=d.out.BU a0.out;have hK:(jc j)[0]=AK.n:=(by have:=M.out;subst this;rfl);by_cases ha:a=s.size
   ·first
    |exfalso;omega
    |have f:Hid (jQ pp s.data.toList (oq s.data.toList L) L ⟨[],[],⟨#[]⟩⟩=(af,(a:Int))):=by
      show _=_;rw[p];unfold jQ;rw[gY iE]
     have e1:((a:Int)==(s.size:Int))=aP:=iI;clear p q ha hK;go_wp2;refine aA (v:=.tuple #[.agg #[.int .i64 (jC j),.slice na r t,.slice u fn x,.string m.tx],.int .i64 a]) (by simp only[results,ax];go_simp) rfl ⟨oh d.out.below (au _) _ _ _ _,_,_,_,_,_,_,_,by rw[f.out],λc hc=>by rw[f.out]at hc;cases hc⟩
   have e1:((a:Int)==(s.size:Int))=az:=iI;have b1:(a:Int)<s.size:=iE;have R:a<s.size:=iE;have A:s.data.toList.getD a 0=s[a]:=lC s a R;by_cases hc:s[a]=32
   ·have e3:((s[a].toNat:Int)!=32)=az:=by rw[hc];rfl
    by_cases bo:a+1=s.size
    ·have f:Hid (jQ pp s.data.toList (oq s.data.toList L) L ⟨[],[],⟨#[]⟩⟩=(af,(a:Int)+1)):=by
      show _=_;rw[p];unfold jQ;rw[gZ iE,gZ (by rw[A];simpa using hc),gY iE]
     have bp:((a:Int)+1==(s.size:Int))=aP:=iI;clear p q ha hK hc A;go_wp2;refine aA (v:=.tuple #[.agg #[.int .i64 (jC j),.slice na r t,.slice u fn x,.string m.tx],.int .i64 ((a:Int)+1)]) (by simp only[results,ax];go_simp) rfl ⟨oh d.out.below (au _) _ _ _ _,_,_,_,_,_,_,_,by rw[f.out],λc hc=>by rw[f.out]at hc;cases hc⟩
    ·have S:a+1<s.size:=iE
     have bp:((a:Int)+1==(s.size:Int))=az:=iI;have U:=Ez E bh;rw[hK]at U;have a1:Hid (w.heap[l+5+j]?=ag (.cells (rG j) 66)):=F.out.rows j E;have bq:=ah U;have V:=ah (And.intro p q);have br:=ah S;clear p q U ha hK hc A bo S;go_wp2;have S:=br.out;have e5:(a:Int)+1<=s.size:=iE;have e6:((a:Int)+1).toNat=a+1:=iE;have e7:(0:Int)<=(a:Int)+1:=iE;have b2:min (k:Int) (((jc j).length:Int) - 1)=0:=(by have:=bi.out;omega);have a2:(jc j).length<=4:=zL E;have b3:IntKind.i64.wrap (((jc j).length:Int) - 1)=((jc j).length:Int) - 1:=IntWalk.i64_in _ iE;have b4:(0:Int)<=k:=iE;clear a2
     refine Mix.Ec (aF:=?_) (aG:=?_) 14 5 _ (λW=>W.heap[w.heap.size+1]?=ag (.cells #[.int .i64 (jC j),.slice (ag ⟨l+5+j,0,af⟩) (jc j).length (jc j).length,.bool (nz j)] 69)/\W.heap[l+5+j]?=ag (.cells (rG j) 66))
      (After pp s.data.toList w wr l j (kY pp .n (s.data.toList.drop (a+1)) m)) (.tuple #[.int .i64 (ny pp .n (s.data.toList.drop (a+1))),.bool (oV pp .n (s.data.toList.drop (a+1)))]) (sS .n) #[.pointer (ag ⟨w.heap.size+1+1,0,af⟩),.string (s.extract (a+1) s.size)]
      iF rfl iF iF iF rfl rfl iF iF iF iF ?_ ?_ ?_ ?_ ?_ ?_ ?_ ?_ ?_
     rotate_left 2
     ·intro I
      exact⟨d.out.og,(d.out.below.block _ (by have:=F.out.lt;omega)).trans a1.out⟩
     ·intro W I h;exact h.drewN I
     ·intro W h
      exact⟨h.keep _ _ _ _ d.out.og iE iG iG,(h.below.block _ (by have:=F.out.lt;omega)).trans a1.out⟩
     ·rintro ρ ⟨a3,a4⟩
      have aD:ρ.cell? ⟨w.heap.size+1,1,af⟩=ag (.slice (ag ⟨l+5+j,0,af⟩) (jc j).length (jc j).length):=(ae a3 1).trans rfl
      have g1:ρ.cell? ⟨l+5+j,0,af⟩=ag (.func (.func (sS .n)) #[] #[]):=by exact(ae a4 (2*0)).trans bq.out
      clear a3 a4;simp only[bJ,di]
      repeat(go_big_quiet_step(fail))
      apply bF;exact rfl
     ·rfl
     ·intro W
      go_simp;exact EC .n _ W
     ·intro I
      have X:(s.extract (a+1) s.size).data.toList=s.data.toList.drop (a+1):=by simp[aO];exact aT (bQ (by rw[aC,K]))
      obtain⟨P,Q,B⟩:=d.out.cm;have a2:=G.out;have b5:=d.out.ln;have b6:=d.out.lf
      have C:s.data.toList.getD a 0=32:=by rw[lC s a R];have e:((s[a].toNat:Int)!=32)=az:=e3;simp only[bne_eq_false_iff_eq]at e;exact aJ.1 (by have e:(32:UInt8).toNat=32:=rfl;omega)
      have a5:=V.out.2 iE C iE;refine(Ey pp .n (s.extract (a+1) s.size) (wr.drewN I) w.heap.size (w.heap.size+1+1) (jC j) m ⟨P,Q,B.base,B.blk,B.names,B.fmts⟩ d.out.below.size iI (bc.out.below' (d.out.below.trans (below_drewN _ _ _)) O.out.1 O.out.2.1 O.out.2.2) iE iE (λhp _=>?_) (λhp _=>?_)).mono ?_
      ·rw[X];exact a5.1 hp
      ·rw[X];exact⟨_,a5.1 hp⟩
      ·rintro e W ⟨v,rfl,rfl,a6,bs,a7⟩
       rw[X]at a7⊢;exact⟨rfl,d.out.below.trans ((below_drewN _ _ _).trans a6),λb bt T bv bw bx bA bB=>bs b bt T bv bw bx bA bB,a7⟩
     ·intro ρ
      simp only[bK,aW,Act.put,aX,bT,bU]
      repeat(go_big_quiet_step(fail))
      apply bF;exact rfl
     ·intro W y
      have hcut:=zK pp .n (s.data.toList.drop (a+1));rw[aC,K]at hcut;obtain⟨N,Y⟩:=Int.eq_ofNat_of_zero_le hcut.1;have b7:a+1+N<=s.size:=iE
      have C:s.data.toList.getD a 0=32:=by rw[lC s a R];have e:((s[a].toNat:Int)!=32)=az:=e3;simp only[bne_eq_false_iff_eq]at e;exact aJ.1 (by have e:(32:UInt8).toNat=32:=rfl;omega)
      have p:=V.out.1;have q:=(V.out.2 iE C iE).2;rw[zM,gZ iE,gZ (by simpa using C),gZ iE,Y]at p;rw[Y]at q⊢;clear hcut Y C;have g0:W.heap[w.heap.size]?=ag (cmd 0 (.slice af 0 0) (.slice af 0 0) ⟨#[]⟩):=y.keep _ _ _ _ d.out.res iE iG iG;have g2:W.heap[w.heap.size+1]?=ag (.cells #[.int .i64 (jC j),.slice (ag ⟨l+5+j,0,af⟩) (jc j).length (jc j).length,.bool (nz j)] 69):=y.keep _ _ _ _ d.out.og iE iG iG;cases D:oV pp .n (s.data.toList.drop (a+1))
      ·rw[gZ (by rw[D];decide)]at p
       obtain⟨P,Q,g⟩:=y.cm;obtain⟨na,r,t,rfl⟩:=sU g.names;obtain⟨u,fn,x,rfl⟩:=sU g.fmts;generalize kY pp .n (s.data.toList.drop (a+1)) m=a8 at y g;clear an ao ap aq ar r1 r2 av aw bj aD bk q D;have an:W.cell? ⟨w.heap.size+1+1,0,af⟩=ag (.int .i64 (jC j)):=(ae g.blk 0).trans rfl;have ao:W.cell? ⟨w.heap.size+1+1,1,af⟩=ag (.slice na r t):=(ae g.blk 1).trans rfl;have ap:W.cell? ⟨w.heap.size+1+1,2,af⟩=ag (.slice u fn x):=(ae g.blk 2).trans rfl;have aq:W.cell? ⟨w.heap.size+1+1,3,af⟩=ag (.string a8.tx):=(ae g.blk 3).trans rfl;have ar:W.cell? ⟨w.heap.size,0,af⟩=ag (.int .i64 0):=(ae g0 0).trans rfl;have r1:W.cell? ⟨w.heap.size,1,af⟩=ag (.slice af 0 0):=(ae g0 1).trans rfl;have r2:W.cell? ⟨w.heap.size,2,af⟩=ag (.slice af 0 0):=(ae g0 2).trans rfl;have av:W.cell? ⟨w.heap.size,3,af⟩=ag (.string ⟨#[]⟩):=(ae g0 3).trans rfl;have aw:∀o,W.frozen? ⟨w.heap.size,o,af⟩=az:=λo=>aS g0 o
       have bE:=ah y;have f:=ah p;clear y g g0 g2 p;go_wp2;refine aA (v:=.tuple #[.agg #[.int .i64 (jC j),.slice na r t,.slice u fn x,.string a8.tx],.int .i64 ((a:Int)+1)]) (by simp only[results,ax];go_simp) rfl ⟨oh bE.out.below (au _) _ _ _ _,_,_,_,_,_,_,_,by rw[f.out],λc hc=>by rw[f.out]at hc;cases hc⟩
      ·rw[gY D]at p
       have Z:(kY pp .n (s.data.toList.drop (a+1)) m).ns.length<=k+1/\(kY pp .n (s.data.toList.drop (a+1)) m).fs.length<=k+1:=by have z:=EE pp .n (s.data.toList.drop (a+1)) m;have a6:=d.out.ln;have B:=d.out.lf;exact⟨iE,iE⟩
       have b8:(k:Int)<=63:=(by have:=G.out;omega);have bL:Hid (wE pp s.data.toList w l j L W (k+1) (a+1+N) (kY pp .n (s.data.toList.drop (a+1)) m)):=⟨iE,λh=>absurd h (cZ k),iE,y.below,g0,g2,y.cm,by rw[BV];exact p,by rw[BV];exact q D,Z.1,Z.2⟩;clear y g0 g2 p q Z D;go_wp2;go_roundw
       case rel=>exact⟨k+1,a+1+N,_,ig _ iE,ig _ iE,bL.out⟩
       case measure=>have:=G.out;show 64 - ((k:Int)+1).toNat<64 - (k:Int).toNat;omega
   ·have f:Hid (jQ pp s.data.toList (oq s.data.toList L) L ⟨[],[],⟨#[]⟩⟩=(af,(a:Int))):=by
     show _=_;rw[p];unfold jQ;rw[gZ iE,gY (by rw[A];simpa using hc)]
    have e3:((s[a].toNat:Int)!=32)=aP:=by simp only[bne_iff_ne,ne_eq];exact λe=>hc (aJ.1 (by have e:(32:UInt8).toNat=32:=rfl;omega))
    clear p q ha hK hc A;go_wp2;refine aA (v:=.tuple #[.agg #[.int .i64 (jC j),.slice na r t,.slice u fn x,.string m.tx],.int .i64 a]) (by simp only[results,ax];go_simp) rfl ⟨oh d.out.below (au _) _ _ _ _,_,_,_,_,_,_,_,by rw[f.out],λc hc=>by rw[f.out]at hc;cases hc⟩
def qh (l:List UInt8)(j:Nat):List AK:=if j=12 then oq l (iV 32 l).length else jc j
def ou (pp:List UInt8->Bool)(l:List UInt8):Option (Int×Cx)×Int:=
 match wu (iV 32 l)with
 |none=>(af,0)
 |some j=>((jQ pp l (qh l j) (iV 32 l).length ⟨[],[],⟨#[]⟩⟩).1.map (λc=>(jC j,c)),(jQ pp l (qh l j) (iV 32 l).length ⟨[],[],⟨#[]⟩⟩).2)
def uD (pp:List UInt8->Bool)(l:List UInt8):Prop:=
 match wu (iV 32 l)with
 |none=>True
 |some j=>nP pp l (qh l j) (iV 32 l).length
def qN (ln:List UInt8):Bool:=!ln.isEmpty&&(ln.getD 0 0!=35)
def lY (pp:List UInt8->Bool):Nat->List UInt8->Nat->List (Int×Cx)->Option (List (Int×Cx))×Int×Int
 |0,_,_,acc=>(ag acc,0,0)
 |n+1,l,a,acc=>
  if l.isEmpty then(ag acc,0,0)
  else if qN (iV 10 l)then
   if acc.length=256 then(af,a,7)
   else match ou pp (iV 10 l)with
    |(ag c,_)=>lY pp n (l.drop ((iV 10 l).length+1)) (a+((iV 10 l).length+1)) (acc++[c])
    |(af,k)=>(af,a+k,4)
  else lY pp n (l.drop ((iV 10 l).length+1)) (a+((iV 10 l).length+1)) acc
def sV (pp:List UInt8->Bool):Nat->List UInt8->Prop
 |0,_=>True
 |n+1,l=>l.isEmpty=az->(qN (iV 10 l)=aP->uD pp (iV 10 l))/\sV pp n (l.drop ((iV 10 l).length+1))
def jT (pp:List UInt8->Bool)(l:List UInt8):Option (List (Int×Cx))×Int×Int:=
 if l.length>65536 then(af,0,6)else match cp l with|some n=>(af,n,11)|none=>lY pp l.length l 0 []
theorem Jb (pp:List UInt8->Bool)(l:List UInt8):∀(b:List AK) (a:Nat) (c:Cx),a<=l.length->(∃d,jQ pp l b a c=(ag d,-1))\/(∃k:Nat,jQ pp l b a c=(af,(k:Int))/\k<=l.length)
 |[],a,c,h=>by
  unfold jQ;by_cases e:a<l.length
  ·rw[gY e];exact .inr ⟨a,rfl,h⟩
  ·rw[gZ e];exact .inl ⟨c,rfl⟩
 |K::b,a,c,h=>by
  rw[zM];split
  ·exact .inr ⟨a,rfl,h⟩
  ·split
   ·exact .inr ⟨a,rfl,h⟩
   ·split
    ·exact .inr ⟨a+1,rfl,iE⟩
    ·split
     ·have:=zK pp K (l.drop (a+1))
      rw[aC]at this;exact Jb pp l b _ _ iE
     ·exact .inr ⟨a+1,rfl,iE⟩
theorem Jc (pp:List UInt8->Bool)(l:List UInt8):(∃d,ou pp l=(ag d,-1))\/(∃k:Nat,ou pp l=(af,(k:Int))/\k<=l.length):=by
 unfold ou;cases h:wu (iV 32 l)with
 |none=>exact .inr ⟨0,rfl,bW _⟩
 |some j=>
  rcases Jb pp l (qh l j) (iV 32 l).length ⟨[],[],⟨#[]⟩⟩ (qE _ _)with⟨d,a⟩|⟨k,a,b⟩
  ·simp only[a];exact .inl ⟨_,rfl⟩
  ·simp only[a];exact .inr ⟨k,rfl,b⟩
def Jd (pp:List UInt8->Bool)(l:List UInt8)(B:Nat)(e:Ending)(w':aj):Prop:=
 ∃op a b d f g h tx,e=.returned (.tuple #[.agg #[.int .i64 op,.slice a b d,.slice f g h,.string tx],.int .i64 (ou pp l).2])/\∀c,(ou pp l).1 =ag c->op=c.1 /\tx=c.2.tx/\qc B (.slice a b d) c.2.ns w'/\qg B (.slice f g h) c.2.fs w'
theorem Je (pp:List UInt8->Bool)(s:ByteArray)(w:aj)(b:Nat)(hF:Forms b w)(l:Env w)(hs:s.size<=35184372088000)(a:uD pp s.data.toList)
  (m:0<w.heap.size/\1<w.heap.size/\2<w.heap.size):
  bz aI 15 #[.string s,.map (ag (b+4))] w λe w'=>aH w.heap.size w w'/\Jd pp s.data.toList w.heap.size e w':=by
 unfold Jd;unfold uD at a;unfold ou;cases h:wu (iV 32 s.data.toList)with
 |none=>exact(RZ s w b hF hs h).mono λe w' ⟨f,g⟩=>⟨f,_,_,_,_,_,_,_,_,g,λc hc=>by cases hc⟩
 |some j=>
  rw[h]at a;by_cases i:j=12
  ·have hx:qh s.data.toList j=oq s.data.toList (iV 32 s.data.toList).length:=by unfold qh;rw[gY i]
   simp only[hx]at a⊢;refine(Sr pp s w b j hF l hs h i a m).mono λe w' ⟨f,n,o,p,q,r,t,tx,g,k⟩=>⟨f,_,_,_,_,_,_,_,_,g,λc hc=>?_⟩
   obtain⟨d,hd,rfl⟩:=bG.1 hc;exact⟨rfl,k d hd⟩
  ·have hx:qh s.data.toList j=jc j:=by unfold qh;rw[gZ i]
   simp only[hx]at a⊢;refine(RX pp s w b j hF l hs h i a m).mono λe w' ⟨f,n,o,p,q,r,t,tx,g,k⟩=>⟨f,_,_,_,_,_,_,_,_,g,λc hc=>?_⟩
   obtain⟨d,hd,rfl⟩:=bG.1 hc;exact⟨rfl,k d hd⟩
theorem EG {T E size bytes:Nat}{z:ay}(f:Tryz.prog.underlying T=ag (.slice E))(g:(Tryz.prog.info? E).map (λi=>(i.zero,i.size,i.bytes))=ag (ag z,size,bytes))(l:z.cells.size=size)(m:0<size)(p:bytes<=1000)
  {ops:Array Oper}{rest:List Oper}{o:Oper}{a:Act}{Q:Exit->Act->aj->Prop}(w:aj)(q:o.guard=af)(s x:Operand)
  (r:o.op=.call {callee:=.builtin .append,args:=#[s,x],argTypes:=#[T,T]}){B n:Nat}{v:ay}{xs:List ay}(hs:a.eval s=v)(d:w.ownsRow B E size v n xs)(b:Array ay)(t:b.size=size)(y:∀u∈b.toList,u.oneCell'=aP)
  (H c:Nat)(A:w.heap.size=H)(hx:a.eval x=.slice (ag ⟨H,0,af⟩) 1 c)(N:n<=100000000)(C:B<=w.heap.size)
  (h:∀v' w',w'.ownsRow B E size v' (n+1) (xs++b.toList)->aH B w w'->(w.alloc (.cells b E)).grownBy w' v.ownBlock->wpList aI ops Q rest (a.put o.dst v') w'):wpList aI ops Q (o::rest) a (w.alloc (.cells b E)):=by
 obtain⟨D,hi,F,G,I⟩:=info_parts g;subst A;have J:(n+1)*bytes<=140737488355328:=bV (Nat.mul_le_mul (show n+1<=100000001 by omega) p) iG;refine wpList_append_own _ q s x T r B E D z size bytes f hi F G I l m v n xs hs (aB d _) ⟨w.heap.size,0,af⟩ 1 c b.toList hx (by simp[t]) ?_ y (by unfold maxLen;omega) J iI ?_
 ·intro j u K
  rw[add_zero',ae (aK w _)];simpa using K
 ·intro v' w' L e _
  exact h v' w' L (((aQ B w).alloc C _).grown e iI (λk M=>(dw d k M).1)) e
theorem World.EH (w:aj)(o:Obj):(w.alloc o).heap.size=w.heap.size+1:=iH
theorem yF {w:aj}{B a e size n:Nat}{v:ay}{xs:List ay}(h:w.ownsRow B e size v n xs)(d:a<=B):w.ownsRow a e size v n xs:=by
 refine⟨h.1,?_⟩;rcases h.2 with hn|⟨g,cap,b,hv,f,c⟩
 ·exact .inl hn
 ·exact .inr ⟨g,cap,b,hv,iE,c⟩
theorem Su {w:aj}{B e size n:Nat}{v:ay}{xs:List ay}(h:w.ownsRow B e size v n xs){k:Nat}(a:v.ownBlock=ag k):∃b,w.heap[k]?=ag (.cells b e (0,0)):=by
 rcases h.2 with⟨rfl,_⟩|⟨g,cap,c,rfl,_,d,_⟩
 ·simp[Value.ownBlock]at a
 ·simp only[Value.ownBlock,aZ]at a
  subst a;exact⟨c,d⟩
theorem BX {w w':aj}{b e1 c d B e size n:Nat}{v1 v:ay}{f xs:List ay}(h:w.ownsRow b e1 c v1 d f)(i:w.ownsRow B e size v n xs)(j:e1≠e){o:Obj}(k:(w.alloc o).grownBy w' v.ownBlock):w'.ownsRow b e1 c v1 d f:=by
 refine⟨h.1,?_⟩;rcases h.2 with hn|⟨g,cap,l,hv,m,a,p⟩
 ·exact .inl hn
 ·refine .inr ⟨g,cap,l,hv,m,?_,p⟩
  have q:g<w.heap.size:=(aY.1 a).1
  rw[k.block g iI (λe=>by obtain⟨r,hc⟩:=Su i e.symm;rw[a]at hc;simp at hc;exact j hc.2),aN w _ g q]
  exact a
structure CM where
 op:Int
 nv:ay
 fv:ay
 cx:Cx
def CM.cells (m:CM):List ay:=[.int .i64 m.op,m.nv,m.fv,.string m.cx.tx]
def lM (B:Nat)(v:ay)(L:List (Int×Cx))(w:aj):Prop:=∃M:List CM,M.map (λm=>(m.op,m.cx))=L/\w.ownsRow B 38 4 v M.length (M.flatMap CM.cells)/\∀m∈M,qc B m.nv m.cx.ns w/\qg B m.fv m.cx.fs w
theorem lM.nil (B:Nat)(w:aj):lM B (.slice af 0 0) [] w:=⟨[],rfl,⟨rfl,.inl ⟨rfl,rfl⟩⟩,λ_ h=>by cases h⟩
theorem lM.slice {B:Nat}{v:ay}{L:List (Int×Cx)}{w:aj}(h:lM B v L w):∃a b,v=.slice a L.length b:=by
 obtain⟨M,rfl,c,e⟩:=h;rw[List.length_map];rcases c.2 with⟨rfl,d⟩|⟨g,cap,f,rfl,_⟩
 ·rw[d];exact⟨_,_,rfl⟩
 ·exact⟨_,_,rfl⟩
theorem oz {w w':aj}{B e size n:Nat}{v:ay}{xs:List ay}(h:w.ownsRow B e size v n xs)(b:aH w.heap.size w w'):w'.ownsRow B e size v n xs:=by
 refine⟨h.1,?_⟩;rcases h.2 with hn|⟨g,cap,c,hv,d,a,f⟩
 ·exact .inl hn
 ·refine .inr ⟨g,cap,c,hv,d,?_,f⟩
  have i:g<w.heap.size:=(aY.1 a).1;rw[b.block g i];exact a
theorem lM.below {B:Nat}{v:ay}{L:List (Int×Cx)}{w w':aj}(h:lM B v L w)(a:aH w.heap.size w w'):lM B v L w':=by obtain⟨M,c,d,b⟩:=h;exact⟨M,c,oz d a,λm hm=>⟨oz (b m hm).1 a,oz (b m hm).2 a⟩⟩
theorem Jf:(Tryz.prog.info? 38).map (λi=>(i.zero,i.size,i.bytes))=ag (ag (.agg #[.int .i64 0,.slice af 0 0,.slice af 0 0,.string ⟨#[]⟩]),4,72):=iF
theorem Sv (op:Int)(b c:Option Addr)(d e f g:Nat)(tx:ByteArray):∀u∈(#[.int .i64 op,.slice b d e,.slice c f g,.string tx]:Array ay).toList,u.oneCell'=aP:=by intro u a;simp at a;rcases a with rfl|rfl|rfl|rfl<;>rfl
def Sz (pp:List UInt8->Bool)(b:List UInt8)(c:aj)(d:Nat)(wr:aj)(e:ay)(a:Nat)(acc:List (Int×Cx))(n:Nat):Prop:=
 a<=b.length+1/\b.length<=a+n/\acc.length<=256/\lM c.heap.size e acc wr/\aH c.heap.size c wr/\Forms d wr/\Env wr/\lY pp b.length b 0 []=lY pp n (b.drop a) a acc/\sV pp n (b.drop a)
def EI (B:Nat)(r:Option (List (Int×Cx))×Int×Int)(e:Ending)(w':aj):Prop:=
 ∃v,e=.returned (.tuple #[v,.int .i64 r.2.1,.int .i64 r.2.2])/\lM B v (r.1.getD []) w'
theorem Env.Jg {w:aj}(h:Env w):0<w.heap.size/\1<w.heap.size/\2<w.heap.size:=⟨h.fmt.lt,h.tabs.lt.1,h.tabs.lt.2⟩
theorem SE (pp:List UInt8->Bool)(s:ByteArray)(w:aj)(a:Nat)(hF:Forms a w)(k:Env w)(hs:s.size<=35184372088000)(n:uD pp s.data.toList)(d:Int×Cx)(h:ou pp s.data.toList=(ag d,-1)):
  bz aI 15 #[.string s,.map (ag (a+4))] w λe w'=>∃b c f g i j,e=.returned (.tuple #[.agg #[.int .i64 d.1,.slice b c f,.slice g i j,.string d.2.tx],.int .i64 (-1)])/\aH w.heap.size w w'/\qc w.heap.size (.slice b c f) d.2.ns w'/\qg w.heap.size (.slice g i j) d.2.fs w':=by
 refine(Je pp s w a hF k hs n k.Jg).mono ?_;rintro e w' ⟨o,op,b,c,f,g,i,j,tx,l,m⟩;rw[h]at l m;obtain⟨rfl,rfl,p,q⟩:=m d rfl;exact⟨_,_,_,_,_,_,l,o,p,q⟩
theorem SG (pp:List UInt8->Bool)(s:ByteArray)(w:aj)(a:Nat)(hF:Forms a w)(b:Env w)(hs:s.size<=35184372088000)(m:uD pp s.data.toList)(k:Nat)(h:ou pp s.data.toList=(af,(k:Int))):
  bz aI 15 #[.string s,.map (ag (a+4))] w λe w'=>∃op c d f g i j tx,e=.returned (.tuple #[.agg #[.int .i64 op,.slice c d f,.slice g i j,.string tx],.int .i64 k])/\aH w.heap.size w w':=by
 refine(Je pp s w a hF b hs m b.Jg).mono ?_;rintro e w' ⟨n,op,c,d,f,g,i,j,tx,l,o⟩;rw[h]at l;exact⟨_,_,_,_,_,_,_,_,l,n⟩
theorem SH (pp:List UInt8->Bool)(n a:Nat)(acc:List (Int×Cx)):lY pp n [] a acc=(ag acc,0,0):=by cases n<;>rfl
theorem SI {pp:List UInt8->Bool}{n:Nat}{l:List UInt8}{a:Nat}{acc:List (Int×Cx)}(h:l.isEmpty=az)(hc:qN (iV 10 l)=az):lY pp (n+1) l a acc=lY pp n (l.drop ((iV 10 l).length+1)) (a+((iV 10 l).length+1)) acc:=by
 conv=>lhs;unfold lY
 rw[gZ (by rw[h];decide),gZ (by rw[hc];decide)]
theorem SK {pp:List UInt8->Bool}{n:Nat}{l:List UInt8}{a:Nat}{acc:List (Int×Cx)}(h:l.isEmpty=az)(hc:qN (iV 10 l)=aP)(ha:acc.length=256):lY pp (n+1) l a acc=(af,(a:Int),7):=by
 conv=>lhs;unfold lY
 rw[gZ (by rw[h];decide),gY hc,gY ha]
theorem SL {pp:List UInt8->Bool}{n:Nat}{l:List UInt8}{a k:Nat}{acc:List (Int×Cx)}(h:l.isEmpty=az)(hc:qN (iV 10 l)=aP)(ha:acc.length≠256)(b:ou pp (iV 10 l)=(af,(k:Int))):lY pp (n+1) l a acc=(af,(a:Int)+k,4):=by
 conv=>lhs;unfold lY
 rw[gZ (by rw[h];decide),gY hc,gZ ha,b]
theorem SN {pp:List UInt8->Bool}{n:Nat}{l:List UInt8}{a:Nat}{acc:List (Int×Cx)}{d:Int×Cx}(h:l.isEmpty=az)(hc:qN (iV 10 l)=aP)(ha:acc.length≠256)(b:ou pp (iV 10 l)=(ag d,-1)):lY pp (n+1) l a acc=lY pp n (l.drop ((iV 10 l).length+1)) (a+((iV 10 l).length+1)) (acc++[d]):=by
 conv=>lhs;unfold lY
 rw[gZ (by rw[h];decide),gY hc,gZ ha,b]
theorem SQ (s:ByteArray)(w:aj)(a:Tabs w)(n:Nat)(h:cp s.data.toList=ag n):bz aI 12 #[.string s] w λe w'=>e=.returned (.tuple #[.int .i64 n,.int .i64 11])/\aH w.heap.size w w':=by have:=check_any s w a;rw[h]at this;exact this
theorem SV (s:ByteArray)(w:aj)(a:Tabs w)(h:cp s.data.toList=af):bz aI 12 #[.string s] w λe w'=>e=.returned (.tuple #[.int .i64 (-1),.int .i64 0])/\aH w.heap.size w w':=by have:=check_any s w a;rw[h]at this;exact this
theorem SX {B b:Nat}{c:ay}{acc:List (Int×Cx)}{d wr wr':aj}(f:lM B c acc wr)(g:aH B d wr)(h:B<=wr.heap.size)(e:Forms b wr)(i:Env wr)(a:aH wr.heap.size wr wr'):lM B c acc wr'/\aH B d wr'/\Forms b wr'/\Env wr':=
 ⟨f.below a,g.trans (a.mono h),e.below a (by have:=e.lt;omega),i.below a⟩
theorem SY {B c:Nat}{v v':ay}{M:List CM}{W w':aj}{o:Obj}(d:Int×Cx)(e f:ay)(a:W.ownsRow B 38 4 v M.length (M.flatMap CM.cells))(g:∀m∈M,qc B m.nv m.cx.ns W/\qg B m.fv m.cx.fs W)
  (j:qc c e d.2.ns W)(k:qg c f d.2.fs W)(i:B<=c)(hr:w'.ownsRow B 38 4 v' (M.length+1) (M.flatMap CM.cells++[.int .i64 d.1,e,f,.string d.2.tx]))(b:(W.alloc o).grownBy w' v.ownBlock):
  lM B v' (M.map (λm=>(m.op,m.cx))++[d]) w':=by
 refine⟨M++[⟨d.1,e,f,d.2⟩],iH,?_,?_⟩
 ·rw[List.length_append,List.flatMap_append]
  exact hr
 ·intro m hm
  rcases List.mem_append.1 hm with h|h
  ·exact⟨BX (g m h).1 a iG b,BX (g m h).2 a iG b⟩
  ·simp only[List.mem_singleton]at h
   subst h;exact⟨yF (BX j a iG b) i,yF (BX k a iG b) i⟩
theorem parse_any (pp:List UInt8->Bool)(s:ByteArray)(w:aj)(a7:Env w)(hs:s.size<=maxLen)(a8:sV pp s.size s.data.toList):
  bz aI 7 #[.string s] w λe w'=>aH w.heap.size w w'/\EI w.heap.size (jT pp s.data.toList) e w':=by
 have c:s.data.toList.length=s.size:=iH
 have an:=ah a7;have bt:=ah a8;unfold maxLen at hs;clear a7 a8;by_cases b4:s.size<=65536
 ·have bv:(s.size:Int)<=65536:=iE
  cases N:cp s.data.toList with
  |some n=>
   have C:Hid (jT pp s.data.toList=(af,(n:Int),11)):=by show _=_;unfold jT;rw[gZ iE,N]
   have aG:=ah N;have i:=ah c;clear N c;go_enter dh,bZ
   go_wp2_with(go_at_call 12;refine(SQ _ _ an.out.tabs n aG.out).mono ?_;rintro e T ⟨rfl,ao⟩)
   go_ret3;exact⟨ao,by rw[C.out];exact⟨_,rfl,lM.nil _ _⟩⟩
  |none=>
   have C:Hid (jT pp s.data.toList=lY pp s.data.toList.length s.data.toList 0 []):=by show _=_;unfold jT;rw[gZ iE,N]
   have aG:=ah N;have i:=ah c;clear N c;go_enter dh,bZ
   go_wp2_with(first
    |(go_at_call 12;refine(SV _ _ an.out.tabs aG.out).mono ?_;rintro e T ⟨rfl,ao⟩;have u:=ah ao;clear ao)
    |(go_at_call 13;refine(RN _).mono ?_;rintro e b ⟨rfl,hf⟩;have D:=ah hf;clear hf))
   go_loopw [8,9] (λbw aL wr=>∃(a n:Nat) (acc:List (Int×Cx)) (E:Option Addr) (F:Nat),aL=.int .i64 a/\bw=.slice E acc.length F/\Sz pp s.data.toList b T.heap.size wr (.slice E acc.length F) a acc n) (λ_ aL _=>s.size+1 - (intOf aL).toNat)
   case atStart=>have c:=i.out;exact⟨0,s.size,[],af,0,rfl,rfl,iE,iE,iH,lM.nil _ _,aQ _ _,D.out.forms,(an.out.below u.out).below D.out.below,by rw[c,aW],by rw[aW];exact bt.out⟩
   case round=>
    obtain⟨a,n,acc,E,F,rfl,rfl,bx⟩:=hrel;have c:=i.out;obtain⟨ha,hn,a9,bA,ap,ba,bb,G,aM⟩:=bx;rw[c]at ha hn;obtain⟨M,O,U,V⟩:=bA;have bc:M.length=acc.length:=(by rw[<-O];simp);by_cases bB:a<s.size
    ·obtain⟨m,rfl⟩:∃m,n=m+1:=⟨n - 1,iE⟩
     have X:(s.data.toList.drop a).isEmpty=az:=by
      cases h:s.data.toList.drop a with
      |nil=>have:=ig bH h;simp at this;omega
      |cons x r=>rfl
     have bd:(s.extract a s.size).data.toList=s.data.toList.drop a:=by simp[aO];exact aT (bQ (by rw[aC,c]))
     have aq:=qE 10 (s.data.toList.drop a);rw[aC,c]at aq;obtain⟨S,hS⟩:∃S:ByteArray,S=⟨(iV 10 (s.data.toList.drop a)).toArray⟩:=⟨_,rfl⟩;have aR:S.data.toList=iV 10 (s.data.toList.drop a):=(by rw[hS]);have Y:(iV 10 (s.data.toList.drop a)).length=S.size:=(by rw[<-aR];simp);rw[Y]at aq;have j:=aM X;rw[Y,bI]at j;have v:=SI (pp:=pp) (n:=m) (a:=a) (acc:=acc) X;have H:=SK (pp:=pp) (n:=m) (a:=a) (acc:=acc) X;have I:=λk=>SL (pp:=pp) (n:=m) (a:=a) (k:=k) (acc:=acc) X
     have J:=λd=>SN (pp:=pp) (n:=m) (a:=a) (d:=d) (acc:=acc) X
     rw[Y,bI,<-G]at v;rw[<-G]at H;simp only[Y,bI,<-G]at J;simp only[<-G]at I;have Z:=ah bd;have aa:=ah hS;have ab:Hid ((s.extract a s.size).size<=maxLen):=(by show(s.extract a s.size).size<=maxLen;unfold maxLen;simp;omega);have bE:Hid (lM b.heap.size (.slice E acc.length F) acc wr):=⟨M,O,U,V⟩;have ar:Hid (b.heap.size<=wr.heap.size):=ap.size;have l:=ah (λ(W:aj) (h:aH wr.heap.size wr W)=>SX bE.out ap ar.out ba bb h);have b5:(S.size:Int)<=65536:=iE;have b6:(a:Int)<s.size:=iE;have b7:(a:Int)<=s.size:=iE;have b8:(0:Int)<=a:=iE;have a0:=ah (And.intro O (And.intro U V));have P:=ah aR;have be:=ah aq;have a1:=ah hn;clear bd hS aM G O U V Y aR aq c hn ap ba bb bB;by_cases y:S.size=0
     ·obtain rfl:S=⟨#[]⟩:=by
       have:S.data.size=0:=y;exact ext_list (by simp[Array.eq_empty_of_size_eq_zero this])
      have q:=ah (v (by rw[<-P.out];rfl));have ac:=ah j.2;clear v H I J j y
      go_wp2_with(go_at_call 14;refine(wP _ 10 _ ab.out).mono ?_;rw[Z.out,<-aa.out];rintro e w3 ⟨rfl,k,rfl⟩)
      go_roundw
      case rel=>obtain⟨t,f,o,p⟩:=l.out _ (below_drewN _ _ _);have:=a1.out;exact⟨a+(0+1),m,acc,E,F,ig _ iE,rfl,by rw[i.out];omega,by rw[i.out];omega,a9,t,f,o,p,q.out,ac.out⟩
      case measure=>simp[intOf];omega
     ·have bL:0<S.size:=iE
      have ad:S.data.toList.getD 0 0=S[0]:=lC S 0 bL
      have ai:S.data.toList.isEmpty=az:=by
       cases h:S.data.toList with
       |nil=>exact absurd (by simpa using ig bH h) y
       |cons x r=>rfl
      have Q:qN (iV 10 (s.data.toList.drop a))=(S[0]!=35):=by rw[<-P.out];unfold qN;rw[ad,ai];rfl
      have bM:¬S.toList=[]:=λe=>by have:=(toList_nil_iff_emptyBytes S).1 e;subst this;exact y rfl
      have b9:(!S.toList.isEmpty)=aP:=by
       cases h:S.toList with
       |nil=>exact absurd h bM
       |cons x r=>rfl
      by_cases z:S[0]=35
      ·have e5:((S[0].toNat:Int)!=35)=az:=by rw[z];rfl
       have q:=ah (v (by rw[Q,z];rfl));have ac:=ah j.2;clear v H I J j y z Q ai ad
       go_wp2_with(go_at_call 14;refine(wP _ 10 _ ab.out).mono ?_;rw[Z.out,<-aa.out];rintro e w3 ⟨rfl,k,rfl⟩)
       go_roundw
       case rel=>obtain⟨t,f,o,p⟩:=l.out _ (below_drewN _ _ _);have:=a1.out;have:=be.out;exact⟨a+(S.size+1),m,acc,E,F,ig _ iE,rfl,by rw[i.out];omega,by rw[i.out];omega,a9,t,f,o,p,q.out,ac.out⟩
       case measure=>simp[intOf];omega
      ·have e5:((S[0].toNat:Int)!=35)=aP:=by
        simp only[bne_iff_ne,ne_eq];exact λe=>z (aJ.1 (by have e:(35:UInt8).toNat=35:=rfl;omega))
       have K:qN (iV 10 (s.data.toList.drop a))=aP:=(by rw[Q];simpa using z);by_cases hm:acc.length=256
       ·have e6:((acc.length:Int)==256)=aP:=iI
        have q:=ah (H K hm);clear v H I J j y z Q ai ad K hm
        go_wp2_with(go_at_call 14;refine(wP _ 10 _ ab.out).mono ?_;rw[Z.out,<-aa.out];rintro e w3 ⟨rfl,k,rfl⟩)
        go_ret3;obtain⟨t,f,o,p⟩:=l.out _ (below_drewN _ _ k);have g:=u.out.trans (D.out.below.mono u.out.size);refine⟨g.trans (f.mono g.size),?_⟩;rw[C.out,q.out];exact⟨_,rfl,lM.nil _ _⟩
       ·have e6:((acc.length:Int)==256)=az:=iI
        have bf:Hid (uD pp S.data.toList):=by show uD pp S.data.toList;rw[P.out];exact j.1 K
        have bg:Hid (S.size<=35184372088000):=(by show S.size<=35184372088000;omega);have ac:=ah j.2;rcases Jc pp (iV 10 (s.data.toList.drop a))with⟨d,hd⟩|⟨av,hd,bN⟩
        ·have q:=ah (J d K hm hd)
         rw[<-P.out]at hd;have a2:=ah hd;have bh:Hid (acc.length+1<=256):=(by show acc.length+1<=256;omega);clear v H I J j y z Q ai ad K hm hd
         go_wp2_with(first
          |(go_at_call 14;refine(wP _ 10 _ ab.out).mono ?_;rw[Z.out,<-aa.out];rintro e w3 ⟨rfl,k,rfl⟩)
          |(go_at_call 15;refine(SE pp S _ _ (l.out _ (below_drewN _ _ _)).2.2.1 (l.out _ (below_drewN _ _ _)).2.2.2 bg.out bf.out d a2.out).mono ?_;rintro e L ⟨bO,bR,a3,bS,bX,a4,rfl,ak,bi,bj⟩;have al:=ah (And.intro ((below_drewN wr.heap.size wr k).trans ak) (And.intro bi bj));clear ak bi bj)
          |(at_builtin;(refine EG (B:=b.heap.size) (xs:=M.flatMap CM.cells) (n:=M.length) Tryz.underlying23 Jf rfl iG iG _ rfl _ _ rfl rfl (aB (oz a0.out.2.1 al.out.1) _) _ rfl (Sv _ _ _ _ _ _ _ _) (L.heap.size+1) _ (World.EH _ _) rfl ?c1 ?c2 ?_)))
         case c1=>have a5:=a0.out.1;have aw:=bh.out;have aD:=ig bH a5;simp at aD;omega
         case c2=>
          have:=ar.out;have:=al.out.1.size
          simp;omega
         intro v' R hr bk bl;have A:=al.out
         have bm:aH b.heap.size b wr:=by obtain⟨t,f,o,p⟩:=l.out _ (aQ _ _);exact f
         have bo:Forms T.heap.size L/\Env L:=by obtain⟨t,f,o,p⟩:=l.out _ A.1;exact⟨o,p⟩
         have bp:T.heap.size+20<=b.heap.size:=(by have:=D.out.size;omega);have am:=a0.out;have aE:aH b.heap.size b L:=bm.trans (A.1.mono ar.out);have bq:Env b:=(an.out.below u.out).below D.out.below;have aF:aH b.heap.size L R:=((aQ _ L).alloc aE.size _).trans bk
         have a6:lM b.heap.size v' (acc++[d]) R:=by rw[<-bc]at hr;rw[<-am.1];exact SY d _ _ (aB (oz am.2.1 A.1) _) (λm hm=>⟨aB (oz (am.2.2 m hm).1 A.1) _,aB (oz (am.2.2 m hm).2 A.1) _⟩) (aB A.2.1 _) (aB A.2.2 _) ar.out hr bl
         obtain⟨br,bs,rfl⟩:=a6.slice
         have b0:Hid (lM b.heap.size (.slice br (acc++[d]).length bs) (acc++[d]) R/\aH b.heap.size b R/\Forms T.heap.size R/\Env R):=
          ⟨a6,aE.trans aF,bo.1.below aF bp,bq.below (aE.trans aF)⟩
         clear hr bk bl A bm bo bp am aE bq aF a6;go_wp2;go_roundw
         case rel=>obtain⟨t,f,o,p⟩:=b0.out;have:=a1.out;have:=be.out;have:=bh.out;exact⟨a+(S.size+1),m,acc++[d],br,bs,ig _ iE,rfl,by rw[i.out];omega,by rw[i.out];omega,iI,t,f,o,p,q.out,ac.out⟩
         case measure=>simp[intOf];omega
        ·have q:=ah (I av K hm hd)
         have ca:(av:Int)<=65536:=(by have:=P.out;have aw:=ig bH this;simp at aw;omega);rw[<-P.out]at hd;have a2:=ah hd;have cb:(0:Int)<=av:=iE;clear v H I J j y z Q ai ad K hm hd bN
         go_wp2_with(first
          |(go_at_call 14;refine(wP _ 10 _ ab.out).mono ?_;rw[Z.out,<-aa.out];rintro e w3 ⟨rfl,k,rfl⟩)
          |(go_at_call 15;refine(SG pp S _ _ (l.out _ (below_drewN _ _ _)).2.2.1 (l.out _ (below_drewN _ _ _)).2.2.2 bg.out bf.out av a2.out).mono ?_;rintro e L ⟨op,bO,bR,a3,bS,bX,a4,tx,rfl,ak⟩;have al:=ah ((below_drewN wr.heap.size wr k).trans ak);clear ak))
         go_ret3;have g:=u.out.trans (D.out.below.mono u.out.size);obtain⟨t,f,o,p⟩:=l.out _ al.out;refine⟨(g.trans (f.mono g.size)).alloc (bV (bV g.size f.size) (au _)) _,?_⟩;rw[C.out,q.out];exact⟨_,rfl,lM.nil _ _⟩
    ·have cc:¬(a:Int)<s.size:=iE
     have b1:Hid (lY pp s.data.toList.length s.data.toList 0 []=(ag acc,0,0)):=by show _=_;rw[G,bC iE,SH]
     have b2:Hid (lM b.heap.size (.slice E acc.length F) acc wr):=⟨M,O,U,V⟩;clear O U V bc G aM c;go_wp2;go_ret3;have g:=u.out.trans (D.out.below.mono u.out.size);have b3:=g.trans (ap.mono g.size);refine⟨b3,?_⟩;rw[C.out,b1.out];obtain⟨M,a5,aw,aD⟩:=b2.out;exact⟨_,rfl,M,a5,yF aw g.size,λm hm=>⟨yF (aD m hm).1 g.size,yF (aD m hm).2 g.size⟩⟩
 ·have C:Hid (jT pp s.data.toList=(af,0,6)):=by
   show _=_;unfold jT;rw[gY iE]
  have bv:¬(s.size:Int)<=65536:=iE
  have cd:65536<(s.size:Int):=iE
  have i:=ah c;clear c;go_enter dh,bZ;go_wp2;go_ret3;exact⟨aQ _ _,by rw[C.out];exact⟨_,rfl,lM.nil _ _⟩⟩
def lS (t:List UInt8):Bool:=t==[46,120]
theorem Jo:∀l:List UInt8,(∀b∈l,b.toNat<128)->chk l=aP
 |[],_=>by unfold chk;rfl
 |c::r,h=>by rw[Ny (h c (List.mem_cons_self ..))];exact Jo r λb a=>h b (List.mem_cons_of_mem _ a)
theorem zO (pp:List UInt8->Bool)(l:List UInt8)(h:(l.all λb=>decide (b.toNat<128))=aP)(c:l.length<=65536):jT pp l=lY pp l.length l 0 []:=by unfold jT;rw[gZ iE,NC _ (Jo l λb a=>by simpa using List.all_eq_true.1 h b a)]
def yJ:List UInt8:=[108,111,97,100,32,97,32,106,115,111,110,32,34,123,92,34,120,92,34,58,32,49,125,34,10,115,101,116,32,97,32,34,46,120,34,32,34,50,34]
def Cb:List UInt8:=[108,111,97,100,32,97,32,120,109,108,32,34,34]
def Cc:List UInt8:=[103,101,116,32,97,32,34,120,34]
def Ce:List UInt8:=[112,114,105,110,116,32,97,32,98]
def Cf:List UInt8:=[112,114,105,110,116]
theorem Tu:jT lS yJ=(ag [(1,⟨[⟨#[97]⟩],[0],⟨#[123,34,120,34,58,32,49,125]⟩⟩),(8,⟨[⟨#[97]⟩,⟨#[46,120]⟩],[],⟨#[50]⟩⟩)],0,0):=by rw[zO _ _ iG iG];rfl
theorem Tv:jT lS Cb=(af,7,4):=by rw[zO _ _ iG iG];rfl
theorem Tz:jT lS Cc=(af,6,4):=by rw[zO _ _ iG iG];rfl
theorem TA:jT lS Ce=(af,7,4):=by rw[zO _ _ iG iG];rfl
theorem TB:jT lS Cf=(af,5,4):=by rw[zO _ _ iG iG];rfl
end Go.Proofs.YthcalnnipjflkaaGreatDoor
