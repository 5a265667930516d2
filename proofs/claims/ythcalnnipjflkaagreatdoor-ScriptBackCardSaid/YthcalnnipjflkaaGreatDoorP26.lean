import Derived.Test.YthcalnnipjflkaaGreatDoorP16
import Derived.Test.YthcalnnipjflkaaGreatDoorP25
open PLift renaming up -> ae
open Option renaming none -> af, some -> ah, isSome_iff_exists -> aY
open Go.Lib renaming cell_of_heap -> ag, frozen_of_heap -> au, alloc_old -> bu
open Bool renaming false -> aj, true -> aK
open List renaming getElem?_eq_some_iff -> ax, length_singleton -> aA, length_append -> aC, setIfInBounds_toArray -> aH, set_cons_succ -> aI, set_cons_zero -> aJ, getElem?_eq_getElem -> aN, getD_eq_getElem?_getD -> aX, mem_append -> aZ, length_pos_iff -> bz, mem_singleton -> bC
open Nat renaming le_trans -> ay, lt_of_lt_of_le -> aS, le_refl -> aV, zero_add -> bG, le_succ -> bH, add_assoc -> bJ, le_of_lt -> bK, zero_le -> bP
open Go renaming Value -> az, World -> aB, wpQuiet_nil -> aQ, heap_alloc_new -> aT, leaves_cons -> bQ
open Array renaming getElem?_modify -> aO, getElem?_setIfInBounds -> aW
open Go.World renaming setCell -> aP, drewN -> bT
open Go.Proofs.Tryz renaming func72 -> aU, prog -> bD, ntmps72 -> bF, results63 -> bI
open Go.Value renaming int -> bn
set_option linter.all false
set_option maxHeartbeats 8000000
set_option maxRecDepth 100000
namespace Go.Proofs.YthcalnnipjflkaaGreatDoor
open Go.RowKit
open Go.Lib hiding intOf
def pg (v:Nat->List Nd->Option (Nat×List Nd))(s:List UInt8)(fin:UInt8)(c:Bool)(f p1:Nat)(N:List Nd)(ks is:List Int):Option (Nat×List Nd×List Int×List Int):=
 match c with
 |false=>match v p1 N with
  |none=>af
  |some (b,a)=>kK v s fin aj f b a ks (is++[(N.length:Int)])
 |true=>match v p1 N with
  |none=>af
  |some (b,a)=>match kG s b 61 with
   |none=>af
   |some d=>match v d a with
    |none=>af
    |some (e,g)=>kK v s fin aK f e g (ks++[(N.length:Int)]) (is++[(a.length:Int)])
section
variable {v:Nat->List Nd->Option (Nat×List Nd)} {S:List UInt8} {fin:UInt8} {m:Bool} {f p p1:Nat} {N:List Nd} {ks is:List Int}
theorem Ze (h:S[p]?=ah fin):kK v S fin m (f+1) p N ks is=ah (p+1,N,ks,is):=by unfold kK;rw[gY h]
theorem Mc (h:S[p]?≠ah fin)(p1:Nat)(a:(if is=[]then ah p else kG S p 44)=ah p1):kK v S fin m (f+1) p N ks is=pg v S fin m f p1 N ks is:=by
 conv=>lhs;unfold kK
 rw[gZ h,a];cases m<;>rfl
theorem Zf (h:S[p]?≠ah fin)(a:(if is=[]then ah p else kG S p 44)=af):kK v S fin m (f+1) p N ks is=af:=by
 conv=>lhs;unfold kK
 rw[gZ h,a]
theorem Zg (h:v p1 N=af):pg v S fin aj f p1 N ks is=af:=by unfold pg;simp only[h]
theorem Zh (a:Nat)(b:List Nd)(h:v p1 N=ah (a,b)):pg v S fin aj f p1 N ks is=kK v S fin aj f a b ks (is++[(N.length:Int)]):=by unfold pg;simp only[h]
theorem Zi (h:v p1 N=af):pg v S fin aK f p1 N ks is=af:=by unfold pg;simp only[h]
theorem Zj (a:Nat)(b:List Nd)(h:v p1 N=ah (a,b))(c:kG S a 61=af):pg v S fin aK f p1 N ks is=af:=by unfold pg;simp only[h,c]
theorem Zk (a b:Nat)(c:List Nd)(h:v p1 N=ah (a,c))(d:kG S a 61=ah b)(e:v b c=af):pg v S fin aK f p1 N ks is=af:=by unfold pg;simp only[h,d,e]
theorem Zl (b c d:Nat)(a e:List Nd)(h:v p1 N=ah (b,a))(g:kG S b 61=ah c)(i:v c a=ah (d,e)):pg v S fin aK f p1 N ks is=kK v S fin aK f d e (ks++[(N.length:Int)]) (is++[(a.length:Int)]):=by unfold pg;simp only[h,g,i]
end
def xP (ex:Nat->Prop)(B pb nb:Nat)(s:ByteArray)(kd:Int)(o:Bool)(a:az)(w:aB)(r:Option (Nat×List Nd×List Int×List Int))(e:Ending)(w':aB):Prop:=
 match r with
 |some (b,N',ks,is)=>e=.returned (.tuple #[])/\∃c d f,II ex B pb nb s kd o w a b N' c ks is d f w'
 |none=>e=.panicked tK/\Below B w w'
def lenOf (nb:Nat)(X:aB):Nat:=match X.cell? ⟨nb,4,af⟩with
 |some (.slice _ n _)=>n
 |_=>0
theorem Md {ex:Nat->Prop}{B pb nb:Nat}{s:ByteArray}{kd:Int}{o:Bool}{w0:aB}{je:az}{p:Nat}{N:List Nd}{b:az}{ks is:List Int}{d a:az}{X:aB}(h:II ex B pb nb s kd o w0 je p N b ks is d a X):lenOf nb X=is.length:=by
 unfold lenOf;have:X.cell? ⟨nb,4,af⟩=ah a:=(ag h.box 4).trans rfl;rw[this];obtain⟨A,c,rfl⟩:=mW h.ir
 rfl
theorem Zm {sz q a b i2:Nat}(c:q<=sz)(h:q<=a)(d:q<a\/b=0)(e:i2=b+1)(f:a<=sz):2*(sz+1 - a)+(if i2=0 then 1 else 0)<2*(sz+1 - q)+(if b=0 then 1 else 0):=by rw[gZ iE];split<;>omega
section
variable {ex:Nat->Prop} {B pb nb:Nat} {s:ByteArray} {kd:Int} {o:Bool} {w:aB} {je:az} {p:Nat} {N:List Nd} {k:Nat}
def y8 (ex:Nat->Prop)(B pb nb:Nat)(s:ByteArray)(kd:Int)(o:Bool)(w:aB)(je:az)(k:Nat)(fin:UInt8)(b:Bool)(a:Nat)(R:Option (Nat×List Nd×List Int×List Int))(wr:aB):Prop:=
 ∃(q:Nat) (M:List Nd) (c:az) (ks is:List Int) (d e:az) (f:Nat),II ex B pb nb s kd o w je q M c ks is d e wr/\oD s.data.toList a b q M ks is/\R=kK (jd s.data.toList k) s.data.toList fin b f q M ks is/\s.data.toList.length - q+1+(if is=[]then 1 else 0)<=f
theorem y8.mk {fin:UInt8}{b:Bool}{a:Nat}{R:Option (Nat×List Nd×List Int×List Int)}{wr:aB}{q:Nat}{M:List Nd}{c:az}{ks is:List Int}{d e:az}{f:Nat}(g:II ex B pb nb s kd o w je q M c ks is d e wr)(h:oD s.data.toList a b q M ks is)(i:R=kK (jd s.data.toList k) s.data.toList fin b f q M ks is)(j:s.data.toList.length - q+1+(if is=[]then 1 else 0)<=f):y8 ex B pb nb s kd o w je k fin b a R wr:=⟨q,M,c,ks,is,d,e,f,g,h,i,j⟩
def DD (pb nb:Nat)(s:ByteArray)(wr:aB):Nat:=2*(s.size+1 - posOf pb wr)+(if lenOf nb wr=0 then 1 else 0)
theorem Me {q a:Nat}{M e:List Nd}{f g:az}{ks is i b:List Int}{j k l m:az}{X Y:aB}(c:II ex B pb nb s kd o w je q M f ks is j k X)(d:II ex B pb nb s kd o w je a e g i b l m Y)(n:q<=s.size)(h:q<=a)(p:q<a\/is.length=0)(r:b.length=is.length+1)(t:a<=s.size):DD pb nb s Y<DD pb nb s X:=by unfold DD;rw[pos_at d.pv.at_,pos_at c.pv.at_,Md d,Md c];exact Zm n h p r t
theorem MC {L q a b f sz:Nat}{is:List Int}{x:Int}(d:a<=b)(c:L - q+1+(if is=[]then 1 else 0)<=f+1)(e:q<=sz/\(a=q+1\/(a=q/\is.length=0)))(g:b<=L):L - b+1+(if is++[x]=[]then 1 else 0)<=f:=by
 rw[gZ iH];by_cases h:is=[]
 ·rw[gY h]at c;omega
 ·rw[gZ h]at c
  have:0<is.length:=bz.2 h;omega
theorem MF {q a b sz n:Nat}(h:q<=sz/\(a=q+1\/(a=q/\n=0)))(c:a<=b):q<=b:=iE
theorem MG {q a b sz n:Nat}(h:q<=sz/\(a=q+1\/(a=q/\n=0)))(c:a<=b):q<b\/n=0:=iE
theorem kC (s:ByteArray):s.data.toList.length=s.size:=iH
theorem nR {s:ByteArray}{q:Nat}(h:q<s.size):s.data.toList[q]?=ah s[q]:=Lib.data_getElem? s q h
theorem nS {q:Nat}{c:UInt8}(hc:c≠0):((lI s q:Nat):Int)=(c.toNat:Int)↔s.data.toList[q]?=ah c:=by
 unfold lI;by_cases h:q<s.size
 ·rw[dif_pos h,nR h]
  constructor
  ·intro e;rw[UInt8.toNat_inj.1 (show s[q].toNat=c.toNat by omega)]
  ·intro e;rw[Option.some.inj e]
 ·rw[dif_neg h,List.getElem?_eq_none (by rw[kC];omega)]
  constructor
  ·intro e;exact absurd (UInt8.toNat_inj.1 (show c.toNat=(0:UInt8).toNat by have:(0:UInt8).toNat=0:=rfl;omega)) hc
  ·intro e;cases e
theorem oD.kl {S:List UInt8}{a q:Nat}{m:Bool}{M:List Nd}{ks is:List Int}(h:oD S a m q M ks is):ks.length<=is.length:=by have:=h.ks;split at this<;>omega
theorem Zn {S:List UInt8}{a b c:Nat}{M d:List Nd}{ks is:List Int}(h:oD S a aj b M ks is)(hv:xG S b M c d):oD S a aj c d ks (is++[(M.length:Int)]):=by
 have f:=h.at_;have g:=hv.len;have i:=h.is;have e:ks=[]:=by have:=h.ks;simpa using this
 exact⟨hv.fin,hv.tree,iE,hv.top,JH h.refs ⟨iE,iE⟩ iE,by simp[e],iI⟩
theorem Zo {S:List UInt8}{a d i j e:Nat}{M c f:List Nd}{ks is:List Int}(h:oD S a aK d M ks is)(hv:xG S d M i c)(b:xG S j c e f):oD S a aK e f (ks++[(M.length:Int)]) (is++[(c.length:Int)]):=by
 have k:=h.at_;have l:=hv.len;have m:=h.is;have n:=b.len;have g:=h.ks;simp only[if_true]at g;refine⟨b.fin,b.tree,iE,b.top,λy hy=>?_,by simp[g],iI⟩;rw[aZ,aZ,aZ,bC,bC]at hy;rcases hy with(hy|rfl)|(hy|rfl)
 ·have:=h.refs y (List.mem_append_left _ hy);omega
 ·omega
 ·have:=h.refs y (List.mem_append_right _ hy);omega
 ·omega
theorem FX (C:Bool)(hv:ValAt k s)(hs:s.size<=65536)(P:PV ex B pb s p N je w)(hp:p<s.size)(hex:∀b,ex b->b<w.heap.size)(bh:jO s.data.toList.length N)(bi:N.length<=4096)(a:Nat)(ha:a+1=N.length)
  (bj:NB nb kd o (.slice af 0 0) (.slice af 0 0) w)(bk:je.ownBlock≠ah nb)(bl:B<=nb)(bm:B<=w.heap.size)(bo:kd=if C=aK then 10 else 9)(fin:UInt8)(bp:fin≠0)(d:Int)(cv:0<=d)(hd:d+1+(k:Int)=33):
  Calls bD 87 #[.pointer (ah ⟨pb,0,af⟩),.pointer (ah ⟨nb,0,af⟩),.int .u8 fin.toNat,.int .i64 d] w (xP ex B pb nb s kd o je w (kK (jd s.data.toList k) s.data.toList fin C (s.data.toList.length+2) (p+1) N [] [])):=by
 have bq:=kC s;have aa:=ae hs;have a4:=ae hv;have a5:=ae (show 0<=d+1/\d+1+(k:Int)=33 from⟨iE,hd⟩);have br:=ae bo;have b8:=ae bp;have ab:=ae bm;have ac:=ae bl;have ad:=ae P.above;have bs:=II.start (o:=o) (kd:=kd) P bj bk hex;have bt:((p:Int)+1)=((p+1:Nat):Int):=iE
 have b9:PLift (II ex B pb nb s kd o w je (p+1) N je [] [] (.slice af 0 0) (.slice af 0 0) (w.setCell ⟨pb,1,af⟩ (.int .i64 ((p:Int)+1)))):=⟨bs.ps (PK.moved P.at_ (Same.refl _)) (P.at_.moved bt (Same.refl _))⟩;have ca:PLift (oD s.data.toList a C (p+1) N [] []):=⟨⟨by rw[bq];omega,bh,iE,bi,λx hx=>by simp at hx,iH,iI⟩⟩;obtain⟨R,hR⟩:=iC (kK (jd s.data.toList k) s.data.toList fin C (s.data.toList.length+2) (p+1) N [] []);rw[hR];have cb:=ae hR;have Q:=iK P.at_ 1 (.int .i64 p);have bv:∀o,w.frozen? ⟨pb,o,af⟩=aj:=λo=>au P.at_ o
 have cw:d<=32:=iE
 have cx:(p:Int)<=65536:=iE
 clear P bs bj bk hex bh bi bo bp bm bl hv hd hR ha bt hs hp bq
 as_aux_lemma=>
 go_enter Tryz.func87,Tryz.ntmps87
 as_aux_lemma=>
 go_wp2;clear Q bv
 go_loopw [] (λwr=>y8 ex B pb nb s kd o w je k fin C a R wr) (λwr=>DD pb nb s wr)
 case atStart=>exact y8.mk b9.1 ca.1 cb.1.symm (by rw[gY rfl];omega)
 case round=>
  as_aux_lemma=>
  obtain⟨q,M,bw,ks,is,a6,cy,bx,ai,a7,bA,bB⟩:=hrel;obtain⟨X,cc⟩:∃X:aB,X=wr:=⟨_,rfl⟩;subst cc;obtain⟨f,rfl⟩:∃f,bx=f+1:=⟨bx - 1,iE⟩;have a1:=ae ai;have G:=ae a7;have a2:=ae bA.symm;have bE:=ae bB;have bL:q<=s.size:=by have:=a7.fin;rw[kC]at this;exact this
  have cz:(q:Int)<=65536:=by have:=aa.1;omega
  have a3:=iK ai.pv.at_ 0 (.string s);have Q:=iK ai.pv.at_ 1 (.int .i64 q);have a8:=ae λ(Z:aB) (cd:Below X.heap.size X Z)=>FQ (ai.pv.at_.grow cd)
  have ak:=nS (s:=s) (q:=q) b8.1;have ce:lI s q<256:=by unfold lI;split;exact UInt8.toNat_lt _;decide
  generalize lI s q=bM at a8 ak ce;clear ai a7 bA bB;by_cases D:s.data.toList[q]?=ah fin
  ·have cf:((bM:Int)!=(fin.toNat:Int))=aj:=by rw[bne_eq_false_iff_eq];exact ak.2 D
   have K:q<s.size:=(by have:=(ax.1 D).1;rw[kC]at this;exact this);have bN:¬(s.size:Int)<=(q:Int):=iE;have cA:decide ((q:Int)≥(s.size:Int))=aj:=iw bN;have cB:decide ((s.size:Int)<=(q:Int))=aj:=iw bN;have E:=ae (a2.1.symm.trans (Ze (v:=jd s.data.toList k) D));have bO:((q:Int)+1)=((q+1:Nat):Int):=iE;have cg:=ae bO;clear ak D bO
   as_aux_lemma=>
   go_upto_region 1 with fail
   refine Mix.mM (aF:=?_) iF iF iF iF iF ?_ ?_;rotate_left 1
   ·intro ρ i
    have d0:=λz:iR.Grow ρ=>iU (i.trans (z.h.mono i.size)) a3
    have ch:=λz:iR.Grow ρ=>iU (i.trans (z.h.mono i.size)) Q
    have a9:=ae λz:iR.Grow ρ=>a8.1 z.w (i.trans (z.h.mono i.size))
    repeat(go_big_quiet_step((go_at_call 82;exact iR.Grow.calls ((a9.1 _).mono λe w' h=>⟨h.1,h.2.below _⟩))))
    refine aQ ?_;exact rfl
   intro al am;have t:=ae (a1.1.grow am);clear am a3 Q;have Q:=iK t.1.pv.at_ 1 (.int .i64 q);have bv:∀o,al.frozen? ⟨pb,o,af⟩=aj:=λo=>au t.1.pv.at_ o
   as_aux_lemma=>
   go_wp2;go_end0;unfold xP;rw[E.1];exact⟨rfl,_,_,_,t.1.ps (PK.moved t.1.pv.at_ (Same.refl _)) (t.1.pv.at_.moved cg.1 (Same.refl _))⟩
  ·have cf:((bM:Int)!=(fin.toNat:Int))=aK:=by rw[bne_iff_ne];exact λe=>D (ak.1 e)
   clear ak
   as_aux_lemma=>
   go_upto_region 1 with fail
   refine Mix.mM (aF:=?_) iF iF iF iF iF ?_ ?_;rotate_left 1
   ·intro ρ i
    have d0:=λz:iR.Grow ρ=>iU (i.trans (z.h.mono i.size)) a3
    have ch:=λz:iR.Grow ρ=>iU (i.trans (z.h.mono i.size)) Q
    have a9:=ae λz:iR.Grow ρ=>a8.1 z.w (i.trans (z.h.mono i.size))
    repeat(go_big_quiet_step((go_at_call 82;exact iR.Grow.calls ((a9.1 _).mono λe w' h=>⟨h.1,h.2.below _⟩))))
    refine aQ ?_;exact rfl
   intro al am;have t:=ae (a1.1.grow am);clear am a3 Q;obtain⟨an,ao,rfl⟩:=mW t.1.ir;obtain⟨m,hm⟩:=iC is.length;have bR:al.cell? ⟨nb,4,af⟩=ah (.slice an m ao):=(ag t.1.box 4).trans (by rw[<-hm];rfl);have bS:(m:Int)<=4096:=(by have:=G.1.is;have:=G.1.top;omega);by_cases H:is=[]
   case' pos=>
    have ap:¬0<(m:Int):=(by rw[<-hm,H];decide);have ba:¬0<m:=iE;have bb:decide ((m:Int)>0)=aj:=iw ap;have aq:(if is=[]then ah q else kG s.data.toList q 44)=ah q:=gY H;have bX:is.length=0:=(by rw[H];rfl);have I:=t;clear H hm
    go_upto_region 4 with fail
    clear bR ap ba bb bS;obtain⟨ar,bc⟩:=iD al;subst bc
    obtain⟨y,S,av,aw,aD⟩:∃y,II ex B pb nb s kd o w je y M bw ks is a6 (.slice an is.length ao) ar/\R=pg (jd s.data.toList k) s.data.toList fin C f y M ks is/\(q<=s.size/\(y=q+1\/(y=q/\is.length=0)))/\oD s.data.toList a C y M ks is:=
     ⟨_,I.1,a2.1.symm.trans (Mc (v:=jd s.data.toList k) D _ aq),⟨bL,.inr ⟨rfl,bX⟩⟩,G.1⟩
    have I:=ae S;have g:=ae aD;have T:=ae av;have bd:=ae (S.base ab.1 ac.1 ad.1);have J:=ae aw;clear S av aw aD D aq;clear bX
   case' neg=>
    have ap:0<(m:Int):=by rw[<-hm];have:0<is.length:=bz.2 H;omega
    have ba:0<m:=iE;have bb:decide ((m:Int)>0)=aK:=iq ap;by_cases L:s.data.toList[q]?=ah 44
    case neg=>
     have aE:∀h:q<s.size,s[q]≠44:=λh e=>L (by rw[nR h,e])
     have U:=ae (Dt 44 t.1.pv.at_ aa.1 aE);have E:=ae (a2.1.symm.trans (Zf (v:=jd s.data.toList k) D (by rw[gZ H];unfold kG;rw[gZ L])));clear L aE D H hm
     as_aux_lemma=>
     go_wp2_with(go_at_call 86;refine(U.1).mono ?_;rintro e w3 ⟨rfl,F⟩;have be:=ae F;clear F)
     refine⟨rfl,?_⟩;unfold xP;rw[E.1];exact⟨rfl,(t.1.base ab.1 ac.1 ad.1).trans (be.1.below _)⟩
    have K:q<s.size:=(by have:=(ax.1 L).1;rw[kC]at this;exact this);have b0:s[q]'K=44:=by rw[nR K]at L;exact Option.some.inj L
    have aq:(if is=[]then ah q else kG s.data.toList q 44)=ah (q+1):=(by rw[gZ H];unfold kG;rw[gY L]);have U:=ae (Aw 44 t.1.pv.at_ aa.1 K b0);have ci:PLift (oD s.data.toList a C (q+1) M ks is):=⟨⟨by rw[kC];omega,G.1.tree,G.1.at_,G.1.top,G.1.refs,G.1.ks,G.1.is⟩⟩;clear H hm L b0
    go_upto_region 4 with(go_at_call 86;refine(U.1).mono ?_;rintro e w3 ⟨rfl,aG,F⟩;have I:=ae (t.1.ps F aG);clear aG F)
    clear bR ap ba bb bS;obtain⟨ar,bc⟩:=iD w3;subst bc
    obtain⟨y,S,av,aw,aD⟩:∃y,II ex B pb nb s kd o w je y M bw ks is a6 (.slice an is.length ao) ar/\R=pg (jd s.data.toList k) s.data.toList fin C f y M ks is/\(q<=s.size/\(y=q+1\/(y=q/\is.length=0)))/\oD s.data.toList a C y M ks is:=
     ⟨_,I.1,a2.1.symm.trans (Mc (v:=jd s.data.toList k) D _ aq),⟨bL,.inl rfl⟩,ci.1⟩
    have I:=ae S;have g:=ae aD;have T:=ae av;have bd:=ae (S.base ab.1 ac.1 ad.1);have J:=ae aw;clear S av aw aD D aq
   all_goals
    cases C with
    |false=>
     obtain rfl:kd=9:=br.1;have cj:=iK I.1.box 0 (.int .i64 9)
     go_upto_region 7 with fail
     refine L9 (aF:=?_) _ _ _ _ _ _ _ _ (d+1) rfl iF iF iF iF rfl rfl rfl rfl rfl rfl ⟨rfl,rfl,rfl,rfl,rfl,rfl⟩ rfl iF iF iF iF iF iF iF I.1 a4.1 a5.1 g.1.tree g.1.top (by rw[<-kC];exact g.1.fin) (by have:=g.1.kl;have:=g.1.is;have:=g.1.top;omega) (by have:=g.1.is;have:=g.1.top;omega) ?_ ?_ ?_ rfl ?_ ?_ _ _ _ _ rfl rfl rfl ?_ ?_ ?_ ?_ ?_ ?_;rotate_left 1
     ·intro ρ i
      have b1:=iK i 4 (.slice an is.length ao);clear i;dsimp only[List.take]
      repeat(go_big_quiet_step(fail))
      apply aQ;exact rfl
     ·intro W;go_simp<;>exact enters_of aU iF rfl _ _
     ·intro x W;go_simp
     iterate 2 · intro x u;rfl
     iterate 4 · intro x u v2;simp only[Act.put,aH,aI,aJ];rfl
     ·intro j a' W aL aM
      have E:=ae (T.1.trans (Zg (v:=jd s.data.toList k) j));clear j;refine⟨aL,?_⟩;unfold xP;rw[E.1];exact⟨rfl,bd.1.trans aM⟩
     intro l aR j u A n c W ck a0;have V:=ae a0;have r:=ae (uH _ k _ _ _ _ j g.1.fin g.1.tree);have cl:=ae (T.1.trans (Zh (v:=jd s.data.toList k) l aR j));have bf:=ae (Zn g.1 r.1);clear a0 j;simp only[Act.put,aH,aI,aJ]
     as_aux_lemma=>
     go_wp2;go_roundw
     case rel=>exact y8.mk V.1 bf.1 cl.1 (by have cm:=r.1.pos;have cn:=bE.1;have co:=J.1;exact MC cm cn co r.1.fin)
     case measure=>exact Me a1.1 V.1 J.1.1 (MF J.1 r.1.pos) (MG J.1 r.1.pos) iH (by have:=r.1.fin;rw[kC]at this;exact this)
    |true=>
     obtain rfl:kd=10:=br.1;have cj:=iK I.1.box 0 (.int .i64 10)
     go_upto_region 5 with fail
     refine Zd (aF:=?_) _ _ _ _ _ _ _ _ (d+1) rfl iF iF iF iF rfl rfl rfl rfl rfl rfl ⟨rfl,rfl,rfl,rfl,rfl,rfl⟩ rfl iF iF iF iF iF iF iF I.1 a4.1 a5.1 g.1.tree g.1.top (by rw[<-kC];exact g.1.fin) (by have:=g.1.kl;have:=g.1.is;have:=g.1.top;omega) (by have:=g.1.is;have:=g.1.top;omega) ?_ ?_ ?_ rfl ?_ ?_ _ _ _ _ rfl rfl rfl ?_ ?_ ?_ ?_ ?_ ?_;rotate_left 1
     ·intro ρ i
      have b1:=iK i 3 (a6);clear i;dsimp only[List.take]
      repeat(go_big_quiet_step(fail))
      apply aQ;exact rfl
     ·intro W;go_simp<;>exact enters_of aU iF rfl _ _
     ·intro x W;go_simp
     iterate 2 · intro x u;rfl
     iterate 4 · intro x u v2;simp only[Act.put,aH,aI,aJ];rfl
     ·intro j a' W aL aM
      have E:=ae (T.1.trans (Zi (v:=jd s.data.toList k) j));clear j;refine⟨aL,?_⟩;unfold xP;rw[E.1];exact⟨rfl,bd.1.trans aM⟩
     intro l aR j u A n c W ck a0;have bg:=ae j;have r:=ae (uH _ k _ _ _ _ j g.1.fin g.1.tree);have V:=ae a0;have cC:l<=s.size:=(by have:=r.1.fin;rw[kC]at this;exact this);clear a0 j;simp only[Act.put,aH,aI,aJ];by_cases O:s.data.toList[l]?=ah 61
     ·have K:l<s.size:=by have:=(ax.1 O).1;rw[kC]at this;exact this
      have b2:s[l]'K=61:=by rw[nR K]at O;exact Option.some.inj O
      have b3:PLift (l+1<=s.data.toList.length):=⟨by rw[kC];omega⟩;have b4:PLift (kG s.data.toList l 61=ah (l+1)):=⟨by unfold kG;rw[gY O]⟩;have U:=ae (Aw 61 V.1.pv.at_ aa.1 K b2);clear O b2
      go_upto_region 7 with(go_at_call 86;refine(U.1).mono ?_;rintro e w3 ⟨rfl,aG,F⟩;have b5:=ae (V.1.ps F aG);clear aG F)
      have cp:=ae (b5.1.base ab.1 ac.1 ad.1)
      go_upto_region 7 with fail
      refine L9 (aF:=?_) _ _ _ _ _ _ _ _ (d+1) rfl iF iF iF iF rfl rfl rfl rfl rfl rfl ⟨rfl,rfl,rfl,rfl,rfl,rfl⟩ rfl iF iF iF iF iF iF iF b5.1 a4.1 a5.1 r.1.tree r.1.top (by have:=b3.1;rw[<-kC];omega) (by have:=g.1.kl;have:=g.1.is;have:=g.1.top;have:=r.1.top;simp;omega) (by have:=g.1.is;have:=g.1.top;omega) ?_ ?_ ?_ rfl ?_ ?_ _ _ _ _ rfl rfl rfl ?_ ?_ ?_ ?_ ?_ ?_;rotate_left 1
      ·intro ρ i
       have b1:=iK i 4 (.slice an is.length ao);clear i;dsimp only[List.take]
       repeat(go_big_quiet_step(fail))
       apply aQ;exact rfl
      ·intro W;go_simp<;>exact enters_of aU iF rfl _ _
      ·intro x W;go_simp
      iterate 2 · intro x u;rfl
      iterate 4 · intro x u v2;simp only[Act.put,aH,aI,aJ];rfl
      ·intro j a' W aL aM
       have E:=ae (T.1.trans (Zk (v:=jd s.data.toList k) l (l+1) aR bg.1 b4.1 j));clear j;refine⟨aL,?_⟩;unfold xP;rw[E.1];exact⟨rfl,cp.1.trans aM⟩
      intro cq cr j cD cE cF cG cH cI b6;have b7:=ae b6;have Y:=ae (uH _ k _ _ _ _ j (by have:=b3.1;omega) r.1.tree);have cs:=ae (T.1.trans (Zl (v:=jd s.data.toList k) l (l+1) cq aR cr bg.1 b4.1 j));have bf:=ae (Zo g.1 r.1 Y.1);clear b6 j;simp only[Act.put,aH,aI,aJ]
      as_aux_lemma=>
      go_wp2;go_roundw
      case rel=>exact y8.mk b7.1 bf.1 cs.1 (MC (ay r.1.pos (ay (bH _) Y.1.pos)) bE.1 J.1 Y.1.fin)
      case measure=>exact Me a1.1 b7.1 J.1.1 (MF J.1 (ay r.1.pos (ay (bH _) Y.1.pos))) (MG J.1 (ay r.1.pos (ay (bH _) Y.1.pos))) iH (by have:=Y.1.fin;rw[kC]at this;exact this)
     ·have aE:∀h:l<s.size,s[l]≠61:=λh e=>O (by rw[nR h,e])
      have U:=ae (Dt 61 V.1.pv.at_ aa.1 aE);have ct:PLift (kG s.data.toList l 61=af):=⟨by unfold kG;rw[gZ O]⟩;have E:=ae (T.1.trans (Zj (v:=jd s.data.toList k) l aR bg.1 ct.1));clear O aE
      as_aux_lemma=>
      go_wp2_with(go_at_call 86;refine(U.1).mono ?_;rintro e w3 ⟨rfl,F⟩;have be:=ae F;clear F)
      refine⟨rfl,?_⟩;unfold xP;rw[E.1];exact⟨rfl,(V.1.base ab.1 ac.1 ad.1).trans (be.1.below _)⟩
end
section
variable {s:ByteArray} {k:Nat}
theorem Zp:ValAt 0 s:=by
 intro ex B e p N j w d b a hex f g hp;have hd:d=33:=by have:=b.2;omega
 subst hd;obtain⟨xs,c,-⟩:=a.row;obtain⟨h,i,rfl⟩:=mW c;have k:=iK a.at_ 2 (.slice h N.length i);clear a hex f g hp b c;go_enter aU,bF;go_wp2;exact⟨rfl,rfl,Below.refl _ _⟩
theorem Zq (hv:ValAt k s)(hs:s.size<=65536):ValAt (k+1) s:=by
 intro ex B z p N ak w d bE bl hex cb cz hp;have cA:=kC s;obtain⟨xs,bL,cc⟩:=bl.row;obtain⟨U,X,rfl⟩:=mW bL;have cd:=iK bl.at_ 2 (.slice U N.length X);have cB:¬32<d:=by have:=bE.2;omega
 have db:decide (d>32)=aj:=iw cB;have cC:B<=w.heap.size:=ay bl.lo (bK (block_lt bl.at_));by_cases ce:4096<=N.length
 ·have dc:=ae (YY (S:=s.data.toList) (k:=k) (p:=p) ce)
  have bR:(4096:Int)<=(N.length:Int):=iE
  have cD:decide ((N.length:Int)≥4096)=aK:=iq bR;clear bl hex cb cz hp bE bL cc hv cA hs;go_enter aU,bF;go_wp2;refine⟨rfl,?_⟩;unfold VP;rw[dc.1];exact⟨rfl,Below.refl _ _⟩
 have bR:¬(4096:Int)<=(N.length:Int):=iE
 have cD:decide ((N.length:Int)≥4096)=aj:=iw bR;have dS:(N.length:Int)<=4096:=iE
 obtain⟨dd,cE,cF,cG,cH⟩:=info_parts YL;have bS:=ae (iJ cE (iJ cF (iJ cG cH)));have de:=ae (ag (aT w (.cells #[.int .i64 0,.string ⟨#[]⟩,.bool aj,.slice af 0 0,.slice af 0 0] 150)));have df:=ae (World.ownsRow.alloc bL (.cells #[.int .i64 0,.string ⟨#[]⟩,.bool aj,.slice af 0 0,.slice af 0 0] 150));have dg:PLift (B<=(w.alloc (.cells #[.int .i64 0,.string ⟨#[]⟩,.bool aj,.slice af 0 0,.slice af 0 0] 150)).heap.size):=⟨by rw[jl];omega⟩;have aw:=ae bl;have a8:=ae hex;have a9:=ae cb;have cI:=ae (iJ bL cc);have R:=ae ce;have bX:=ae hv;have b0:=ae bE;have dj:=ae hp;have aq:=ae hs;have al:=ae cC;have bM:PLift (N.length<(N++[jG]).length):=⟨by rw[aC,aA];omega⟩;have dT:d<=32:=iE
 have cf:0<=d:=bE.1;have d0:(p:Int)<=65536:=iE
 clear cE cF cG cH bl hex cb cz hp bE bL cc hv ce hs cC cA;go_enter aU,bF
 go_upto_region 4 with fail
 go_wp2_with(at_builtin;refine wG _ rfl _ _ 115 rfl B 150 dd (.agg #[.int .i64 0,.string ⟨#[]⟩,.bool aj,.slice af 0 0,.slice af 0 0]) 5 80 Tryz.underlying115 bS.1.1 bS.1.2.1 bS.1.2.2.1 bS.1.2.2.2 YM iG (.slice U N.length X) N.length xs rfl df.1 ⟨w.heap.size,0,af⟩ 1 1 [.int .i64 0,.string ⟨#[]⟩,.bool aj,.slice af 0 0,.slice af 0 0] rfl rfl (by intro j u cJ;have cK:(⟨w.heap.size,0,af⟩:Addr).add j=⟨w.heap.size,j,af⟩:=(by unfold Addr.add;split<;>simp_all);rw[cK,de.1 j,<-cJ];simp) (by simp[Value.oneCell']) iG (by unfold maxLen;omega) iE dg.1 ?_)
 rintro v' bA cg cL cM;obtain⟨aD,aE,dk⟩:=mW cg;subst dk;obtain⟨b4,b5,ch⟩:=aw.1.push cg cI.1.1 cI.1.2 cL (λk dl=>by have h:=cM k dl;rw[jl];exact h);clear cd;have cd:=iK ch 2 (.slice U N.length X);have dp:=au ch 2;have ar:=ae (VB.start b4 b5 #[.int .i64 0,.string ⟨#[]⟩,.bool aj,.slice af 0 0,.slice af 0 0]);have cN:(bA.setCell ⟨z,2,af⟩ (.slice aD (N.length+1) aE)).heap.size=bA.heap.size:=by simp[aP]
 rw[cN]at ar;clear b4 b5 ch cg cL cM cN
 go_upto_region 6 with fail
 obtain⟨cO,cP⟩:=iC ((bA.setCell ⟨z,2,af⟩ (.slice aD (N.length+1) aE)).alloc (.cells #[.int .i64 0,.string ⟨#[]⟩,.bool aj,.slice af 0 0,.slice af 0 0] 150));rw[cP]at ar⊢;clear cP cd dp cB db bR cD;obtain⟨nb,cQ⟩:=iC bA.heap.size;rw[cQ]at ar⊢;clear cQ;have ac:=ae (FQ ar.1.pv.at_);by_cases aM:s.data.toList[p]?=ah 34
 case' pos=>
  have hn:lI s p=34:=by have h:=(nS (s:=s) (q:=p) (c:=34) iG).2 aM;have e:(34:UInt8).toNat=34:=rfl;omega
  have b:p<s.size:=by have h:=(ax.1 aM).1;rw[kC]at h;exact h
  have am:s[p]'b=34:=by have h:=aM;rw[nR b]at h;exact Option.some.inj h
  rw[hn]at ac;clear hn;have b6:=ae λ(W:aB) (a5:jw W z s p (.slice aD (N.length+1) aE))=>YA a5 aq.1 b am
  cases a6:oC (s.data.toList.drop (p+1))
  case none=>
   have m:=ae (LV (k:=k) R.1 aM);rw[a6]at m b6;clear a6 aM am
   go_wp2_with(first
    |(go_at_call 82;refine(ac.1).mono ?_;rintro e w3 ⟨rfl,K⟩;have a:=ae (ar.1.grow (K.below _));clear K)
    |(go_at_call 83;refine(b6.1 _ a.1.pv.at_).mono ?_;rintro e v ⟨rfl,J⟩;have a7:=ae J;clear J))
   refine⟨rfl,?_⟩;unfold VP;rw[m.1];exact⟨rfl,(a.1.base al.1 aw.1.above).trans (PK.base a7.1 (ay al.1 a.1.pk.size) aw.1.lo (λg e=>by cases e))⟩
  case' some tn=>
   obtain⟨t,n⟩:=tn;have m:=ae (LV (k:=k) R.1 aM);rw[a6]at m b6;clear a6 aM am
   go_upto_region 34 with(first
    |(go_at_call 82;refine(ac.1).mono ?_;rintro e w3 ⟨rfl,K⟩;have a:=ae (ar.1.grow (K.below _));clear K)
    |(go_at_call 83;refine(b6.1 _ a.1.pv.at_).mono ?_;rintro e v ⟨⟨rfl,an⟩,J⟩;have l:=ae (a.1.ps J an);clear an J;have ad:=iK l.1.box 0 _;have b1:=iK l.1.box 1 _;have b2:=iK l.1.box 2 _;have b3:=iK l.1.box 3 _;have T:=iK l.1.box 4 _;have ai:∀o,v.frozen? ⟨nb,o,af⟩=aj:=λo=>au l.1.box o))
   have O:=ae (l.1.yZ (.int .i64 5) (.string ⟨t.toArray⟩) (.bool aj) (.slice af 0 0) (.slice af 0 0));obtain⟨Z,ao⟩:=iC (((((v.setCell ⟨nb,0,af⟩ (.int .i64 5)).setCell ⟨nb,1,af⟩ (.string ⟨t.toArray⟩)).setCell ⟨nb,2,af⟩ (.bool aj)).setCell ⟨nb,3,af⟩ (.slice af 0 0)).setCell ⟨nb,4,af⟩ (.slice af 0 0));rw[ao]at O⊢;clear ao;clear ad b1 b2 b3 T ai
   obtain⟨ba,aG,bb,C,D,E,F,G,A,is,H,P,I,b,Q⟩:∃(q:Nat) (y:List Nd) (ak:az) (C:Int) (D:ByteArray) (E:Bool) (F G:az) (A is:List Int),VB ex B z nb s w (.slice U N.length X) q y ak #[.int .i64 C,.string D,.bool E,F,G] Z/\ji ex Z F A/\ji ex Z G is/\N.length<y.length/\jd s.data.toList (k+1) p N=ah (q,y.set N.length ⟨C,D,E,A,is⟩):=
    ⟨_,N++[jG],_,5,⟨t.toArray⟩,aj,.slice af 0 0,.slice af 0 0,[],[],O.1,ji.nil _ _,ji.nil _ _,bM.1,by rw[AL];exact m.1⟩
   have L:=ae (iJ H (iJ P (iJ I (iJ b Q))));clear H P I b Q
 rotate_left 1;by_cases aR:s.data.toList[p]?=ah 35
 case' pos=>
  have hn:lI s p=35:=by have h:=(nS (s:=s) (q:=p) (c:=35) iG).2 aR;have e:(35:UInt8).toNat=35:=rfl;omega
  have b:p<s.size:=by have h:=(ax.1 aR).1;rw[kC]at h;exact h
  have am:s[p]'b=35:=by have h:=aR;rw[nR b]at h;exact Option.some.inj h
  rw[hn]at ac;clear hn;have bm:PLift (((p:Int)+1)=((p+1:Nat):Int)):=⟨iE⟩
  go_upto_region 11 with(go_at_call 82;refine(ac.1).mono ?_;rintro e w3 ⟨rfl,K⟩;have a:=ae (ar.1.grow (K.below _));clear K)
  have bo:=iK a.1.pv.at_ 1 (.int .i64 p);have bp:∀o,w3.frozen? ⟨z,o,af⟩=aj:=λo=>au a.1.pv.at_ o
  have f:PLift (VB ex B z nb s w (.slice U N.length X) (p+1) (N++[jG]) (.slice aD (N.length+1) aE) #[.int .i64 0,.string ⟨#[]⟩,.bool aj,.slice af 0 0,.slice af 0 0] (w3.setCell ⟨z,1,af⟩ (.int .i64 ((p:Int)+1)))):=⟨a.1.ps (PK.moved a.1.pv.at_ (Same.refl _)) (a.1.pv.at_.moved bm.1 (Same.refl _))⟩
  go_upto_region 12 with fail
  obtain⟨Y,aa⟩:=iC (w3.setCell ⟨z,1,af⟩ (.int .i64 ((p:Int)+1)));rw[aa]at f⊢;clear aa bo bp;have b7:=ae (Yu f.1.pv.at_ aq.1 iE);cases a6:uG (jq (s.data.toList.drop (p+1)))
  case none=>
   have m:=ae (LX (k:=k) R.1 aR);rw[a6]at m b7;clear a6 aR am
   go_wp2_with(go_at_call 84;refine(b7.1).mono ?_;rintro e v ⟨rfl,J⟩;have a7:=ae J;clear J)
   refine⟨rfl,?_⟩;unfold VP;rw[m.1];exact⟨rfl,(f.1.base al.1 aw.1.above).trans (PK.base a7.1 (ay al.1 f.1.pk.size) aw.1.lo (λg e=>by cases e))⟩
  case' some t=>
   have m:=ae (LX (k:=k) R.1 aR);rw[a6]at m b7;clear a6 aR am
   go_upto_region 34 with(go_at_call 84;refine(b7.1).mono ?_;rintro e v ⟨⟨rfl,an⟩,J⟩;have l:=ae (f.1.ps J an);clear an J;have ad:=iK l.1.box 0 _;have b1:=iK l.1.box 1 _;have b2:=iK l.1.box 2 _;have b3:=iK l.1.box 3 _;have T:=iK l.1.box 4 _;have ai:∀o,v.frozen? ⟨nb,o,af⟩=aj:=λo=>au l.1.box o)
   have O:=ae (l.1.yZ (.int .i64 6) (.string ⟨t.toArray⟩) (.bool aj) (.slice af 0 0) (.slice af 0 0));obtain⟨Z,ao⟩:=iC (((((v.setCell ⟨nb,0,af⟩ (.int .i64 6)).setCell ⟨nb,1,af⟩ (.string ⟨t.toArray⟩)).setCell ⟨nb,2,af⟩ (.bool aj)).setCell ⟨nb,3,af⟩ (.slice af 0 0)).setCell ⟨nb,4,af⟩ (.slice af 0 0));rw[ao]at O⊢;clear ao;clear ad b1 b2 b3 T ai
   obtain⟨ba,aG,bb,C,D,E,F,G,A,is,H,P,I,b,Q⟩:∃(q:Nat) (y:List Nd) (ak:az) (C:Int) (D:ByteArray) (E:Bool) (F G:az) (A is:List Int),VB ex B z nb s w (.slice U N.length X) q y ak #[.int .i64 C,.string D,.bool E,F,G] Z/\ji ex Z F A/\ji ex Z G is/\N.length<y.length/\jd s.data.toList (k+1) p N=ah (q,y.set N.length ⟨C,D,E,A,is⟩):=
    ⟨_,N++[jG],_,6,⟨t.toArray⟩,aj,.slice af 0 0,.slice af 0 0,[],[],O.1,ji.nil _ _,ji.nil _ _,bM.1,by rw[AL];exact m.1⟩
   have L:=ae (iJ H (iJ P (iJ I (iJ b Q))));clear H P I b Q
 rotate_left 1;by_cases bc:s.data.toList[p]?=ah 64
 case' pos=>
  have hn:lI s p=64:=by have h:=(nS (s:=s) (q:=p) (c:=64) iG).2 bc;have e:(64:UInt8).toNat=64:=rfl;omega
  have b:p<s.size:=by have h:=(ax.1 bc).1;rw[kC]at h;exact h
  have am:s[p]'b=64:=by have h:=bc;rw[nR b]at h;exact Option.some.inj h
  rw[hn]at ac;clear hn;have bm:PLift (((p:Int)+1)=((p+1:Nat):Int)):=⟨iE⟩
  go_upto_region 14 with(go_at_call 82;refine(ac.1).mono ?_;rintro e w3 ⟨rfl,K⟩;have a:=ae (ar.1.grow (K.below _));clear K)
  have bo:=iK a.1.pv.at_ 1 (.int .i64 p);have bp:∀o,w3.frozen? ⟨z,o,af⟩=aj:=λo=>au a.1.pv.at_ o
  have f:PLift (VB ex B z nb s w (.slice U N.length X) (p+1) (N++[jG]) (.slice aD (N.length+1) aE) #[.int .i64 0,.string ⟨#[]⟩,.bool aj,.slice af 0 0,.slice af 0 0] (w3.setCell ⟨z,1,af⟩ (.int .i64 ((p:Int)+1)))):=⟨a.1.ps (PK.moved a.1.pv.at_ (Same.refl _)) (a.1.pv.at_.moved bm.1 (Same.refl _))⟩
  go_upto_region 15 with fail
  obtain⟨Y,aa⟩:=iC (w3.setCell ⟨z,1,af⟩ (.int .i64 ((p:Int)+1)));rw[aa]at f⊢;clear aa bo bp;have m:=ae (YZ (k:=k) R.1 bc);have aL:=ae (AA f.1.pv.at_ aq.1 iE);generalize jq (s.data.toList.drop (p+1))=M at m aL;clear bc am
  go_upto_region 34 with(go_at_call 85;refine(aL.1).mono ?_;rintro e v ⟨rfl,an,J⟩;have l:=ae (f.1.ps J an);clear an J;have ad:=iK l.1.box 0 _;have b1:=iK l.1.box 1 _;have b2:=iK l.1.box 2 _;have b3:=iK l.1.box 3 _;have T:=iK l.1.box 4 _;have ai:∀o,v.frozen? ⟨nb,o,af⟩=aj:=λo=>au l.1.box o)
  have O:=ae (l.1.yZ (.int .i64 7) (.string ⟨M.toArray⟩) (.bool aj) (.slice af 0 0) (.slice af 0 0));obtain⟨Z,ao⟩:=iC (((((v.setCell ⟨nb,0,af⟩ (.int .i64 7)).setCell ⟨nb,1,af⟩ (.string ⟨M.toArray⟩)).setCell ⟨nb,2,af⟩ (.bool aj)).setCell ⟨nb,3,af⟩ (.slice af 0 0)).setCell ⟨nb,4,af⟩ (.slice af 0 0));rw[ao]at O⊢;clear ao;clear ad b1 b2 b3 T ai
  obtain⟨ba,aG,bb,C,D,E,F,G,A,is,H,P,I,b,Q⟩:∃(q:Nat) (y:List Nd) (ak:az) (C:Int) (D:ByteArray) (E:Bool) (F G:az) (A is:List Int),VB ex B z nb s w (.slice U N.length X) q y ak #[.int .i64 C,.string D,.bool E,F,G] Z/\ji ex Z F A/\ji ex Z G is/\N.length<y.length/\jd s.data.toList (k+1) p N=ah (q,y.set N.length ⟨C,D,E,A,is⟩):=
   ⟨_,N++[jG],_,7,⟨M.toArray⟩,aj,.slice af 0 0,.slice af 0 0,[],[],O.1,ji.nil _ _,ji.nil _ _,bM.1,by rw[AL];exact m.1⟩
  have L:=ae (iJ H (iJ P (iJ I (iJ b Q))));clear H P I b Q
 rotate_left 1;by_cases bd:s.data.toList[p]?=ah 37
 case' pos=>
  have hn:lI s p=37:=by have h:=(nS (s:=s) (q:=p) (c:=37) iG).2 bd;have e:(37:UInt8).toNat=37:=rfl;omega
  have b:p<s.size:=by have h:=(ax.1 bd).1;rw[kC]at h;exact h
  have am:s[p]'b=37:=by have h:=bd;rw[nR b]at h;exact Option.some.inj h
  rw[hn]at ac;clear hn;have bm:PLift (((p:Int)+1)=((p+1:Nat):Int)):=⟨iE⟩
  go_upto_region 17 with(go_at_call 82;refine(ac.1).mono ?_;rintro e w3 ⟨rfl,K⟩;have a:=ae (ar.1.grow (K.below _));clear K)
  have bo:=iK a.1.pv.at_ 1 (.int .i64 p);have bp:∀o,w3.frozen? ⟨z,o,af⟩=aj:=λo=>au a.1.pv.at_ o
  have f:PLift (VB ex B z nb s w (.slice U N.length X) (p+1) (N++[jG]) (.slice aD (N.length+1) aE) #[.int .i64 0,.string ⟨#[]⟩,.bool aj,.slice af 0 0,.slice af 0 0] (w3.setCell ⟨z,1,af⟩ (.int .i64 ((p:Int)+1)))):=⟨a.1.ps (PK.moved a.1.pv.at_ (Same.refl _)) (a.1.pv.at_.moved bm.1 (Same.refl _))⟩
  go_upto_region 18 with fail
  obtain⟨Y,aa⟩:=iC (w3.setCell ⟨z,1,af⟩ (.int .i64 ((p:Int)+1)));rw[aa]at f⊢;clear aa bo bp;have m:=ae (Y0 (k:=k) R.1 bd);have aL:=ae (AA f.1.pv.at_ aq.1 iE);generalize jq (s.data.toList.drop (p+1))=M at m aL;clear bd am
  go_upto_region 34 with(go_at_call 85;refine(aL.1).mono ?_;rintro e v ⟨rfl,an,J⟩;have l:=ae (f.1.ps J an);clear an J;have ad:=iK l.1.box 0 _;have b1:=iK l.1.box 1 _;have b2:=iK l.1.box 2 _;have b3:=iK l.1.box 3 _;have T:=iK l.1.box 4 _;have ai:∀o,v.frozen? ⟨nb,o,af⟩=aj:=λo=>au l.1.box o)
  have O:=ae (l.1.yZ (.int .i64 8) (.string ⟨M.toArray⟩) (.bool aj) (.slice af 0 0) (.slice af 0 0));obtain⟨Z,ao⟩:=iC (((((v.setCell ⟨nb,0,af⟩ (.int .i64 8)).setCell ⟨nb,1,af⟩ (.string ⟨M.toArray⟩)).setCell ⟨nb,2,af⟩ (.bool aj)).setCell ⟨nb,3,af⟩ (.slice af 0 0)).setCell ⟨nb,4,af⟩ (.slice af 0 0));rw[ao]at O⊢;clear ao;clear ad b1 b2 b3 T ai
  obtain⟨ba,aG,bb,C,D,E,F,G,A,is,H,P,I,b,Q⟩:∃(q:Nat) (y:List Nd) (ak:az) (C:Int) (D:ByteArray) (E:Bool) (F G:az) (A is:List Int),VB ex B z nb s w (.slice U N.length X) q y ak #[.int .i64 C,.string D,.bool E,F,G] Z/\ji ex Z F A/\ji ex Z G is/\N.length<y.length/\jd s.data.toList (k+1) p N=ah (q,y.set N.length ⟨C,D,E,A,is⟩):=
   ⟨_,N++[jG],_,8,⟨M.toArray⟩,aj,.slice af 0 0,.slice af 0 0,[],[],O.1,ji.nil _ _,ji.nil _ _,bM.1,by rw[AL];exact m.1⟩
  have L:=ae (iJ H (iJ P (iJ I (iJ b Q))));clear H P I b Q
 rotate_left 1;by_cases be:s.data.toList[p]?=ah 33
 case' pos=>
  have hn:lI s p=33:=by have h:=(nS (s:=s) (q:=p) (c:=33) iG).2 be;have e:(33:UInt8).toNat=33:=rfl;omega
  have b:p<s.size:=by have h:=(ax.1 be).1;rw[kC]at h;exact h
  have am:s[p]'b=33:=by have h:=be;rw[nR b]at h;exact Option.some.inj h
  rw[hn]at ac;clear hn;have bm:PLift (((p:Int)+1)=((p+1:Nat):Int)):=⟨iE⟩
  go_upto_region 20 with(go_at_call 82;refine(ac.1).mono ?_;rintro e w3 ⟨rfl,K⟩;have a:=ae (ar.1.grow (K.below _));clear K)
  have bo:=iK a.1.pv.at_ 1 (.int .i64 p);have bp:∀o,w3.frozen? ⟨z,o,af⟩=aj:=λo=>au a.1.pv.at_ o
  have f:PLift (VB ex B z nb s w (.slice U N.length X) (p+1) (N++[jG]) (.slice aD (N.length+1) aE) #[.int .i64 0,.string ⟨#[]⟩,.bool aj,.slice af 0 0,.slice af 0 0] (w3.setCell ⟨z,1,af⟩ (.int .i64 ((p:Int)+1)))):=⟨a.1.ps (PK.moved a.1.pv.at_ (Same.refl _)) (a.1.pv.at_.moved bm.1 (Same.refl _))⟩
  go_upto_region 21 with fail
  obtain⟨Y,aa⟩:=iC (w3.setCell ⟨z,1,af⟩ (.int .i64 ((p:Int)+1)));rw[aa]at f⊢;clear aa bo bp;have aL:=ae (AA f.1.pv.at_ aq.1 iE);obtain⟨M,bq⟩:=iC (jq (s.data.toList.drop (p+1)));rw[bq]at aL;have d1:PLift (p+1+M.length<=s.size):=⟨by have h:=Du (s.data.toList.drop (p+1));rw[Dv,bq]at h;omega⟩;have br:=ae (iJ bq be);clear be am bq
  go_upto_region 22 with(go_at_call 85;refine(aL.1).mono ?_;rintro e v ⟨rfl,an,J⟩;have l:=ae (f.1.ps J an);clear an J;have ad:=iK l.1.box 0 _;have b1:=iK l.1.box 1 _;have b2:=iK l.1.box 2 _;have b3:=iK l.1.box 3 _;have T:=iK l.1.box 4 _;have ai:∀o,v.frozen? ⟨nb,o,af⟩=aj:=λo=>au l.1.box o)
  have O:=ae (l.1.yZ (.int .i64 11) (.string ⟨M.toArray⟩) (.bool aj) (.slice af 0 0) (.slice af 0 0));obtain⟨cR,ao⟩:=iC (((((v.setCell ⟨nb,0,af⟩ (.int .i64 11)).setCell ⟨nb,1,af⟩ (.string ⟨M.toArray⟩)).setCell ⟨nb,2,af⟩ (.bool aj)).setCell ⟨nb,3,af⟩ (.slice af 0 0)).setCell ⟨nb,4,af⟩ (.slice af 0 0));rw[ao]at O⊢;clear ao;clear ad b1 b2 b3 T ai;by_cases bs:s.data.toList[p+1+M.length]?=ah 40
  case neg=>
   have bt:=ae (Dt 40 O.1.pv.at_ aq.1 (λh e=>bs (by rw[nR h,e])));have m:=ae (Y3 (k:=k) R.1 br.1.2 (by rw[br.1.1];unfold kG;rw[gZ bs]));clear bs
   go_wp2_with(go_at_call 86;refine(bt.1).mono ?_;rintro e a0 ⟨rfl,bf⟩;have ci:=ae bf;clear bf)
   refine⟨rfl,?_⟩;unfold VP;rw[m.1];exact⟨rfl,(O.1.base al.1 aw.1.above).trans (PK.base (show PS z _ _ from PK.same ci.1) (ay al.1 O.1.pk.size) aw.1.lo (λg e=>by cases e))⟩
  have b8:PLift (p+1+M.length<s.size):=⟨by have h:=(ax.1 bs).1;rw[kC]at h;exact h⟩;have cj:PLift (kG s.data.toList (p+1+(jq (s.data.toList.drop (p+1))).length) 40=ah (p+1+M.length+1)):=⟨by rw[br.1.1];unfold kG;rw[gY bs]⟩;have bt:=ae (Aw 40 O.1.pv.at_ aq.1 b8.1 (by have h:=bs;rw[nR b8.1]at h;exact Option.some.inj h));clear bs
  go_upto_region 23 with(go_at_call 86;refine(bt.1).mono ?_;rintro e a0 ⟨rfl,cS,bf⟩;have b9:=ae (O.1.ps bf cS);clear cS bf)
  have dq:PLift ((N++[jG]).length<=4096):=⟨by rw[aC,aA];have:=R.1;omega⟩;have bN:=ae (bX.1 ex B z (p+1+M.length+1) (N++[jG]) (.slice aD (N.length+1) aE) a0 (d+1) ⟨iE,by have:=b0.1.2;omega⟩ b9.1.pv (b9.1.DC a8.1) (tq a9.1) dq.1 (by have:=b8.1;omega));obtain⟨n0,ck⟩:∃n0:Nat,(N++[jG]).length=n0:=⟨_,rfl⟩;rw[ck]at bN;have dr:PLift (n0=N.length+1):=⟨by rw[<-ck,aC,aA]⟩;clear ck;cases bv:jd s.data.toList k (p+1+M.length+1) (N++[jG])
  case none=>
   have m:=ae (Y4 R.1 br.1.2 _ cj.1 bv);rw[bv]at bN;clear bv
   go_wp2_with(go_at_call 72;refine(bN.1).mono ?_;rintro e ap ⟨rfl,cT⟩;have ds:=ae cT;clear cT)
   refine⟨rfl,?_⟩;unfold VP;rw[m.1];exact⟨rfl,(b9.1.base al.1 aw.1.above).trans ds.1⟩
  case' some r=>
   obtain⟨a1,y⟩:=r;have dt:=ae (uH _ k _ _ _ _ bv (by rw[kC];have:=b8.1;omega) (tq a9.1));have cU:=ae bv;rw[bv]at bN;clear bv
   go_upto_region 24 with(go_at_call 72;refine(bN.1).mono ?_;rintro e ap ⟨rfl,ca,cV,cW⟩;have cl:=ae (b9.1.val cV cW);clear cV cW;have cm:=ae (cl.1.grow (iW ap (.cells #[.int .i64 ((n0:Nat):Int)] 3)));have T:(ap.alloc (.cells #[.int .i64 ((n0:Nat):Int)] 3)).cell? ⟨nb,4,af⟩=ah (.slice af 0 0):=(ag cm.1.box 4).trans rfl;have ai:∀o,(ap.alloc (.cells #[.int .i64 ((n0:Nat):Int)] 3)).frozen? ⟨nb,o,af⟩=aj:=λo=>au cm.1.box o)
   have bw:PLift (VB ex B z nb s w (.slice U N.length X) a1 y ca #[.int .i64 11,.string ⟨M.toArray⟩,.bool aj,.slice af 0 0,.slice (ah ⟨ap.heap.size,0,af⟩) 1 1] ((ap.alloc (.cells #[.int .i64 ((n0:Nat):Int)] 3)).setCell ⟨nb,4,af⟩ (.slice (ah ⟨ap.heap.size,0,af⟩) 1 1))):=⟨cm.1.set1 4 _⟩
   have cX:PLift (ji ex ((ap.alloc (.cells #[.int .i64 ((n0:Nat):Int)] 3)).setCell ⟨nb,4,af⟩ (.slice (ah ⟨ap.heap.size,0,af⟩) 1 1)) (.slice (ah ⟨ap.heap.size,0,af⟩) 1 1) [((n0:Nat):Int)]):=⟨by
    refine⟨ah ⟨ap.heap.size,0,af⟩,1,rfl,(by decide:1<=100000000),.inr ⟨ap.heap.size,#[.int .i64 ((n0:Nat):Int)],rfl,λe=>?_,?_,?_⟩⟩
    ·have d2:=a8.1 _ e
     have cK:=cl.1.pk.size;omega
    ·rw[jm _ (by have:=block_lt cl.1.box;omega)]
     exact aT ap _
    ·intro j x hx
     match j,hx with
     |0,hx=>simp only[List.getElem?_cons_zero,Option.some.injEq]at hx;subst hx;rfl
     |j+1,hx=>simp at hx⟩
   obtain⟨cY,c0⟩:=iC ((ap.alloc (.cells #[.int .i64 ((n0:Nat):Int)] 3)).setCell ⟨nb,4,af⟩ (.slice (ah ⟨ap.heap.size,0,af⟩) 1 1));rw[c0]at bw cX⊢;clear c0 T ai;by_cases bx:s.data.toList[a1]?=ah 41
   case neg=>
    have bt:=ae (Dt 41 bw.1.pv.at_ aq.1 (λh e=>bx (by rw[nR h,e])));have m:=ae (Y5 R.1 br.1.2 _ _ _ cj.1 cU.1 (by unfold kG;rw[gZ bx]));clear bx
    go_wp2_with(go_at_call 86;refine(bt.1).mono ?_;rintro e d3 ⟨rfl,bf⟩;have ci:=ae bf;clear bf)
    refine⟨rfl,?_⟩;unfold VP;rw[m.1];exact⟨rfl,(bw.1.base al.1 aw.1.above).trans (PK.base (show PS z _ _ from PK.same ci.1) (ay al.1 bw.1.pk.size) aw.1.lo (λg e=>by cases e))⟩
   have c1:PLift (a1<s.size):=⟨by have h:=(ax.1 bx).1;rw[kC]at h;exact h⟩;have bt:=ae (Aw 41 bw.1.pv.at_ aq.1 c1.1 (by have h:=bx;rw[nR c1.1]at h;exact Option.some.inj h));have m:=ae (Y6 R.1 br.1.2 _ _ (a1+1) _ cj.1 cU.1 (by unfold kG;rw[gY bx]));rw[br.1.1,<-dr.1]at m;have du:PLift (N.length<y.length):=⟨by have:=dt.1.len;rw[aC,aA]at this;omega⟩;clear bx
   go_upto_region 34 with(go_at_call 86;refine(bt.1).mono ?_;rintro e Z ⟨rfl,c2,cn⟩;have dv:=ae (bw.1.ps cn c2);have a2:=ae (ji.ps cX.1 cn bw.1.pv.at_);clear c2 cn)
   obtain⟨ba,aG,bb,C,D,E,F,G,A,is,H,P,I,b,Q⟩:∃(q:Nat) (y:List Nd) (ak:az) (C:Int) (D:ByteArray) (E:Bool) (F G:az) (A is:List Int),VB ex B z nb s w (.slice U N.length X) q y ak #[.int .i64 C,.string D,.bool E,F,G] Z/\ji ex Z F A/\ji ex Z G is/\N.length<y.length/\jd s.data.toList (k+1) p N=ah (q,y.set N.length ⟨C,D,E,A,is⟩):=
    ⟨_,y,_,11,⟨M.toArray⟩,aj,_,_,[],[((n0:Nat):Int)],dv.1,ji.nil _ _,a2.1,du.1,m.1⟩
   have L:=ae (iJ H (iJ P (iJ I (iJ b Q))));clear H P I b Q
 rotate_left 1;by_cases bg:s.data.toList[p]?=ah 91
 case' pos=>
  have hn:lI s p=91:=by have h:=(nS (s:=s) (q:=p) (c:=91) iG).2 bg;have e:(91:UInt8).toNat=91:=rfl;omega
  have b:p<s.size:=by have h:=(ax.1 bg).1;rw[kC]at h;exact h
  have am:s[p]'b=91:=by have h:=bg;rw[nR b]at h;exact Option.some.inj h
  rw[hn]at ac;clear hn;have m:=ae (Y7 (k:=k) R.1 bg);clear bg am
  go_upto_region 27 with(go_at_call 82;refine(ac.1).mono ?_;rintro e w3 ⟨rfl,K⟩;have a:=ae (ar.1.grow (K.below _));clear K;have ad:=iK a.1.box 0 _;have b1:=iK a.1.box 1 _;have b2:=iK a.1.box 2 _;have b3:=iK a.1.box 3 _;have T:=iK a.1.box 4 _;have ai:∀o,w3.frozen? ⟨nb,o,af⟩=aj:=λo=>au a.1.box o)
  have f:PLift (VB ex B z nb s w (.slice U N.length X) p (N++[jG]) (.slice aD (N.length+1) aE) #[.int .i64 9,.string ⟨#[]⟩,.bool aj,.slice af 0 0,.slice af 0 0] (w3.setCell ⟨nb,0,af⟩ (.int .i64 9))):=⟨(a.1.set1 0 (.int .i64 9))⟩;obtain⟨Y,aa⟩:=iC ((w3.setCell ⟨nb,0,af⟩ (.int .i64 9)));rw[aa]at f⊢;clear aa ad b1 b2 b3 T ai;have av:=ae (FX aj bX.1 aq.1 f.1.pv b (f.1.DC a8.1) (tq a9.1) (by rw[aC,aA];have:=R.1;omega) N.length iH f.1.box f.1.oK (ay al.1 f.1.lo) (ay al.1 f.1.pk.size) rfl 93 iG d cf (by have:=b0.1.2;omega));cases hit:kK (jd s.data.toList k) s.data.toList 93 aj (s.data.toList.length+2) (p+1) (N++[jG]) [] []
  case none=>
   rw[hit]at m av;clear hit
   go_wp2_with(go_at_call 87;refine(av.1).mono ?_;rintro e v ⟨rfl,J⟩;have a7:=ae J;clear J)
   refine⟨rfl,?_⟩;unfold VP;rw[m.1];exact⟨rfl,(f.1.base al.1 aw.1.above).trans a7.1⟩
  case' some r=>
   obtain⟨a1,y,A,is⟩:=r;have ab:=ae (yP (uH _ k) 93 aj N.length _ _ _ _ _ _ _ _ _ hit ⟨by rw[kC];omega,tq a9.1,iH,by rw[aC,aA];have:=R.1;omega,λx hx=>by simp at hx,iH,iH⟩).1;rw[hit]at m av;clear hit
   go_upto_region 34 with(go_at_call 87;refine(av.1).mono ?_;rintro e Z ⟨rfl,ca,F,G,bh⟩;have bO:=ae bh;clear bh)
   obtain⟨H,bi,I⟩:=f.1.items a8.1 bO.1 (by have:=ab.1.kl;have:=ab.1.is;have:=ab.1.top;omega) (by have:=ab.1.is;have:=ab.1.top;omega);have O:=ae H;have a2:=ae (iJ bi I);clear H bi I
   obtain⟨ba,aG,bb,C,D,E,F,G,A,is,H,P,I,b,Q⟩:∃(q:Nat) (y:List Nd) (ak:az) (C:Int) (D:ByteArray) (E:Bool) (F G:az) (A is:List Int),VB ex B z nb s w (.slice U N.length X) q y ak #[.int .i64 C,.string D,.bool E,F,G] Z/\ji ex Z F A/\ji ex Z G is/\N.length<y.length/\jd s.data.toList (k+1) p N=ah (q,y.set N.length ⟨C,D,E,A,is⟩):=
    ⟨a1,y,_,9,⟨#[]⟩,aj,_,_,A,is,O.1,a2.1.1,a2.1.2,ab.1.at_,m.1⟩
   have L:=ae (iJ H (iJ P (iJ I (iJ b Q))));clear H P I b Q
 rotate_left 1;by_cases bj:s.data.toList[p]?=ah 123
 case' pos=>
  have hn:lI s p=123:=by have h:=(nS (s:=s) (q:=p) (c:=123) iG).2 bj;have e:(123:UInt8).toNat=123:=rfl;omega
  have b:p<s.size:=by have h:=(ax.1 bj).1;rw[kC]at h;exact h
  have am:s[p]'b=123:=by have h:=bj;rw[nR b]at h;exact Option.some.inj h
  rw[hn]at ac;clear hn;have m:=ae (Y8 (k:=k) R.1 bj);clear bj am
  go_upto_region 30 with(go_at_call 82;refine(ac.1).mono ?_;rintro e w3 ⟨rfl,K⟩;have a:=ae (ar.1.grow (K.below _));clear K;have ad:=iK a.1.box 0 _;have b1:=iK a.1.box 1 _;have b2:=iK a.1.box 2 _;have b3:=iK a.1.box 3 _;have T:=iK a.1.box 4 _;have ai:∀o,w3.frozen? ⟨nb,o,af⟩=aj:=λo=>au a.1.box o)
  have f:PLift (VB ex B z nb s w (.slice U N.length X) p (N++[jG]) (.slice aD (N.length+1) aE) #[.int .i64 10,.string ⟨#[]⟩,.bool aj,.slice af 0 0,.slice af 0 0] (w3.setCell ⟨nb,0,af⟩ (.int .i64 10))):=⟨(a.1.set1 0 (.int .i64 10))⟩;obtain⟨Y,aa⟩:=iC ((w3.setCell ⟨nb,0,af⟩ (.int .i64 10)));rw[aa]at f⊢;clear aa ad b1 b2 b3 T ai;have av:=ae (FX aK bX.1 aq.1 f.1.pv b (f.1.DC a8.1) (tq a9.1) (by rw[aC,aA];have:=R.1;omega) N.length iH f.1.box f.1.oK (ay al.1 f.1.lo) (ay al.1 f.1.pk.size) rfl 125 iG d cf (by have:=b0.1.2;omega));cases hit:kK (jd s.data.toList k) s.data.toList 125 aK (s.data.toList.length+2) (p+1) (N++[jG]) [] []
  case none=>
   rw[hit]at m av;clear hit
   go_wp2_with(go_at_call 87;refine(av.1).mono ?_;rintro e v ⟨rfl,J⟩;have a7:=ae J;clear J)
   refine⟨rfl,?_⟩;unfold VP;rw[m.1];exact⟨rfl,(f.1.base al.1 aw.1.above).trans a7.1⟩
  case' some r=>
   obtain⟨a1,y,A,is⟩:=r;have ab:=ae (yP (uH _ k) 125 aK N.length _ _ _ _ _ _ _ _ _ hit ⟨by rw[kC];omega,tq a9.1,iH,by rw[aC,aA];have:=R.1;omega,λx hx=>by simp at hx,iH,iH⟩).1;rw[hit]at m av;clear hit
   go_upto_region 34 with(go_at_call 87;refine(av.1).mono ?_;rintro e Z ⟨rfl,ca,F,G,bh⟩;have bO:=ae bh;clear bh)
   obtain⟨H,bi,I⟩:=f.1.items a8.1 bO.1 (by have:=ab.1.kl;have:=ab.1.is;have:=ab.1.top;omega) (by have:=ab.1.is;have:=ab.1.top;omega);have O:=ae H;have a2:=ae (iJ bi I);clear H bi I
   obtain⟨ba,aG,bb,C,D,E,F,G,A,is,H,P,I,b,Q⟩:∃(q:Nat) (y:List Nd) (ak:az) (C:Int) (D:ByteArray) (E:Bool) (F G:az) (A is:List Int),VB ex B z nb s w (.slice U N.length X) q y ak #[.int .i64 C,.string D,.bool E,F,G] Z/\ji ex Z F A/\ji ex Z G is/\N.length<y.length/\jd s.data.toList (k+1) p N=ah (q,y.set N.length ⟨C,D,E,A,is⟩):=
    ⟨a1,y,_,10,⟨#[]⟩,aj,_,_,A,is,O.1,a2.1.1,a2.1.2,ab.1.at_,m.1⟩
   have L:=ae (iJ H (iJ P (iJ I (iJ b Q))));clear H P I b Q
 rotate_left 1;by_cases bk:s.data.toList[p]?=ah 60
 case' pos=>
  have hn:lI s p=60:=by have h:=(nS (s:=s) (q:=p) (c:=60) iG).2 bk;have e:(60:UInt8).toNat=60:=rfl;omega
  have b:p<s.size:=by have h:=(ax.1 bk).1;rw[kC]at h;exact h
  have am:s[p]'b=60:=by have h:=bk;rw[nR b]at h;exact Option.some.inj h
  rw[hn]at ac;clear hn;have m:=ae (Y9 (k:=k) R.1 bk);clear bk am
  go_upto_region 33 with(go_at_call 82;refine(ac.1).mono ?_;rintro e w3 ⟨rfl,K⟩;have a:=ae (ar.1.grow (K.below _));clear K;have ad:=iK a.1.box 0 _;have b1:=iK a.1.box 1 _;have b2:=iK a.1.box 2 _;have b3:=iK a.1.box 3 _;have T:=iK a.1.box 4 _;have ai:∀o,w3.frozen? ⟨nb,o,af⟩=aj:=λo=>au a.1.box o)
  have f:PLift (VB ex B z nb s w (.slice U N.length X) p (N++[jG]) (.slice aD (N.length+1) aE) #[.int .i64 10,.string ⟨#[]⟩,.bool aK,.slice af 0 0,.slice af 0 0] ((w3.setCell ⟨nb,0,af⟩ (.int .i64 10)).setCell ⟨nb,2,af⟩ (.bool aK))):=⟨((a.1.set1 0 (.int .i64 10)).set1 2 (.bool aK))⟩;obtain⟨Y,aa⟩:=iC (((w3.setCell ⟨nb,0,af⟩ (.int .i64 10)).setCell ⟨nb,2,af⟩ (.bool aK)));rw[aa]at f⊢;clear aa ad b1 b2 b3 T ai;have av:=ae (FX aK bX.1 aq.1 f.1.pv b (f.1.DC a8.1) (tq a9.1) (by rw[aC,aA];have:=R.1;omega) N.length iH f.1.box f.1.oK (ay al.1 f.1.lo) (ay al.1 f.1.pk.size) rfl 62 iG d cf (by have:=b0.1.2;omega));cases hit:kK (jd s.data.toList k) s.data.toList 62 aK (s.data.toList.length+2) (p+1) (N++[jG]) [] []
  case none=>
   rw[hit]at m av;clear hit
   go_wp2_with(go_at_call 87;refine(av.1).mono ?_;rintro e v ⟨rfl,J⟩;have a7:=ae J;clear J)
   refine⟨rfl,?_⟩;unfold VP;rw[m.1];exact⟨rfl,(f.1.base al.1 aw.1.above).trans a7.1⟩
  case' some r=>
   obtain⟨a1,y,A,is⟩:=r;have ab:=ae (yP (uH _ k) 62 aK N.length _ _ _ _ _ _ _ _ _ hit ⟨by rw[kC];omega,tq a9.1,iH,by rw[aC,aA];have:=R.1;omega,λx hx=>by simp at hx,iH,iH⟩).1;rw[hit]at m av;clear hit
   go_upto_region 34 with(go_at_call 87;refine(av.1).mono ?_;rintro e Z ⟨rfl,ca,F,G,bh⟩;have bO:=ae bh;clear bh)
   obtain⟨H,bi,I⟩:=f.1.items a8.1 bO.1 (by have:=ab.1.kl;have:=ab.1.is;have:=ab.1.top;omega) (by have:=ab.1.is;have:=ab.1.top;omega);have O:=ae H;have a2:=ae (iJ bi I);clear H bi I
   obtain⟨ba,aG,bb,C,D,E,F,G,A,is,H,P,I,b,Q⟩:∃(q:Nat) (y:List Nd) (ak:az) (C:Int) (D:ByteArray) (E:Bool) (F G:az) (A is:List Int),VB ex B z nb s w (.slice U N.length X) q y ak #[.int .i64 C,.string D,.bool E,F,G] Z/\ji ex Z F A/\ji ex Z G is/\N.length<y.length/\jd s.data.toList (k+1) p N=ah (q,y.set N.length ⟨C,D,E,A,is⟩):=
    ⟨a1,y,_,10,⟨#[]⟩,aK,_,_,A,is,O.1,a2.1.1,a2.1.2,ab.1.at_,m.1⟩
   have L:=ae (iJ H (iJ P (iJ I (iJ b Q))));clear H P I b Q
 rotate_left 1;obtain⟨a3,a4⟩:=iC (lI s p)
 have d4:((a3:Int)==34)=aj:=by rw[iy];intro e;exact aM ((nS (s:=s) (q:=p) (c:=34) iG).1 (by rw[a4];exact e))
 have d5:((a3:Int)==35)=aj:=by rw[iy];intro e;exact aR ((nS (s:=s) (q:=p) (c:=35) iG).1 (by rw[a4];exact e))
 have d6:((a3:Int)==64)=aj:=by rw[iy];intro e;exact bc ((nS (s:=s) (q:=p) (c:=64) iG).1 (by rw[a4];exact e))
 have d7:((a3:Int)==37)=aj:=by rw[iy];intro e;exact bd ((nS (s:=s) (q:=p) (c:=37) iG).1 (by rw[a4];exact e))
 have d8:((a3:Int)==33)=aj:=by rw[iy];intro e;exact be ((nS (s:=s) (q:=p) (c:=33) iG).1 (by rw[a4];exact e))
 have d9:((a3:Int)==91)=aj:=by rw[iy];intro e;exact bg ((nS (s:=s) (q:=p) (c:=91) iG).1 (by rw[a4];exact e))
 have ea:((a3:Int)==123)=aj:=by rw[iy];intro e;exact bj ((nS (s:=s) (q:=p) (c:=123) iG).1 (by rw[a4];exact e))
 have eb:((a3:Int)==60)=aj:=by rw[iy];intro e;exact bk ((nS (s:=s) (q:=p) (c:=60) iG).1 (by rw[a4];exact e))
 rw[a4]at ac;have m:=ae (Za (k:=k) R.1 ⟨aM,aR,bc,bd,be,bg,bj,bk⟩);have co:=Du (s.data.toList.drop p);rw[Dv]at co;obtain⟨M,bq⟩:=iC (jq (s.data.toList.drop p));have aL:=ae λ(W:aB) (a5:jw W z s p (.slice aD (N.length+1) aE))=>AA a5 aq.1 dj.1
 rw[bq]at m aL co;obtain⟨kd,t,cp⟩:=Zb M
 have dx:PLift (∀W:aB,Calls bD 88 #[.string ⟨M.toArray⟩] W λe w'=>e=.returned (.agg #[.int .i64 kd,.string t,.bool aj,.slice af 0 0,.slice af 0 0])/\Below W.heap.size W w'):=⟨λW=>by have h:=YE ⟨M.toArray⟩ (by show M.toArray.size<=_;have:=aq.1;simp;omega) W;rw[show(⟨M.toArray⟩:ByteArray).data.toList=M from rfl,cp]at h;exact h⟩
 rw[cp]at m;clear aM aR bc bd be bg bj bk a4 bq cp co
 go_upto_region 34 with(first
  |(go_at_call 82;refine(ac.1).mono ?_;rintro e w3 ⟨rfl,K⟩;have a:=ae (ar.1.grow (K.below _));clear K)
  |(go_at_call 85;refine(aL.1 _ a.1.pv.at_).mono ?_;rintro e v ⟨rfl,an,J⟩;have f:=ae (a.1.ps J an);clear an J)
  |(go_at_call 88;refine(dx.1 _).mono ?_;rintro e a0 ⟨rfl,c3⟩;have l:=ae (f.1.grow c3);clear c3;have ad:=iK l.1.box 0 _;have b1:=iK l.1.box 1 _;have b2:=iK l.1.box 2 _;have b3:=iK l.1.box 3 _;have T:=iK l.1.box 4 _;have ai:∀o,a0.frozen? ⟨nb,o,af⟩=aj:=λo=>au l.1.box o))
 have O:=ae (l.1.yZ (.int .i64 kd) (.string t) (.bool aj) (.slice af 0 0) (.slice af 0 0));obtain⟨Z,ao⟩:=iC (((((a0.setCell ⟨nb,0,af⟩ (.int .i64 kd)).setCell ⟨nb,1,af⟩ (.string t)).setCell ⟨nb,2,af⟩ (.bool aj)).setCell ⟨nb,3,af⟩ (.slice af 0 0)).setCell ⟨nb,4,af⟩ (.slice af 0 0));rw[ao]at O⊢;clear ao;clear ad b1 b2 b3 T ai
 obtain⟨ba,aG,bb,C,D,E,F,G,A,is,H,P,I,b,Q⟩:∃(q:Nat) (y:List Nd) (ak:az) (C:Int) (D:ByteArray) (E:Bool) (F G:az) (A is:List Int),VB ex B z nb s w (.slice U N.length X) q y ak #[.int .i64 C,.string D,.bool E,F,G] Z/\ji ex Z F A/\ji ex Z G is/\N.length<y.length/\jd s.data.toList (k+1) p N=ah (q,y.set N.length ⟨C,D,E,A,is⟩):=
  ⟨_,N++[jG],_,kd,t,aj,.slice af 0 0,.slice af 0 0,[],[],O.1,ji.nil _ _,ji.nil _ _,bM.1,by rw[AL];exact m.1⟩
 have L:=ae (iJ H (iJ P (iJ I (iJ b Q))));clear H P I b Q
 all_goals
  obtain⟨cq,cr,cs,rfl⟩:=LU L.1.2.1;obtain⟨ct,cv,cw,rfl⟩:=LU L.1.2.2.1;obtain⟨g,cap,dy,c4,c5,b4,b5⟩:=L.1.1.fin (i:=N.length) L.1.2.2.2.1 ⟨C,D,E,A,is⟩ L.1.2.1 L.1.2.2.1;subst dy;have cx:=ae (iJ c4 c5);have ad:=iK L.1.1.box 0 (.int .i64 C);have b1:=iK L.1.1.box 1 (.string D);have b2:=iK L.1.1.box 2 (.bool E);have b3:=iK L.1.1.box 3 (.slice cq cr cs);have T:=iK L.1.1.box 4 (.slice ct cv cw);have dz:=iK L.1.1.pv.at_ 2 (.slice (ah ⟨g,0,af⟩) aG.length cap);have ec:(N.length:Int)<(aG.length:Int):=by have:=L.1.2.2.2.1;omega
  have ee:N.length<aG.length:=L.1.2.2.2.1;clear c4 c5 b4 b5;refine Mix.IJ (aF:=?_) 7 iF rfl iF iF iF iF iF iF rfl rfl rfl ?_ ?_;rotate_left 1
  ·intro ρ bB
   have ef:=kV bB ad;have e1:=kV bB b1;have eg:=kV bB b2;have e3:=kV bB b3;have eh:=kV bB T;have e5:=kV bB dz;dsimp only[List.take]
   repeat(go_big_quiet_step(fail))
   apply aQ;exact rfl
  ·intro W a5
   have c6:∀j,j<5->(W.cell? ⟨g,N.length*5+j,af⟩).isSome=aK:=λj cJ=>by obtain⟨x,hx⟩:=aY.1 (cx.1.2 (N.length*5+j) (by have:=L.1.2.2.2.1;omega));rw[iU a5 hx];rfl
   have c7:∀j,W.frozen? ⟨g,j,af⟩=aj:=λj=>YX a5 (cx.1.1 j) (by obtain⟨x,hx⟩:=aY.1 (cx.1.2 (N.length*5) (by have:=L.1.2.2.2.1;omega));exact World.block_lt_of_cell? _ _ hx)
   obtain⟨c8,c9⟩:=(L.1.1.grow a5).fin_at (i:=N.length) (by rfl) L.1.2.2.2.1 ⟨C,D,E,A,is⟩ (ji.grow L.1.2.1 a5) (ji.grow L.1.2.2.1 a5);have cy:=ae (iJ c8 c9);clear c8 c9;refine⟨lT W g (N.length*5) (.int .i64 C) (.string D) (.bool E) (.slice cq cr cs) (.slice ct cv cw),Zc _ _ rfl g (N.length*5) _ _ _ _ _ _ _ _ _ (by rfl) (by rfl) W c6 c7,?_⟩;obtain⟨V,da⟩:=iC (lT W g (N.length*5) (.int .i64 C) (.string D) (.bool E) (.slice cq cr cs) (.slice ct cv cw));rw[da]at cy⊢;clear da c6 c7;go_wp2;go_ret;unfold VP;rw[L.1.2.2.2.2];exact⟨rfl,_,cy.1.1,cy.1.2⟩
end
theorem MH {s:ByteArray}(hs:s.size<=65536):∀k,ValAt k s
 |0=>Zp
 |k+1=>Zq (MH hs k) hs
def DF (w:aB)(r:Option (List Nd))(e:Ending)(w':aB):Prop:=
 match r with
 |some N=>∃v,e=.returned (.tuple #[.agg #[v,.int .i64 0],.bool aK])/\jJ w' v N/\Below w.heap.size w w'
 |none=>∃a n c,e=.returned (.tuple #[.agg #[.slice a n c,.int .i64 0],.bool aj])/\Below w.heap.size w w'
theorem PV.far {ex:Nat->Prop}{B c:Nat}{s:ByteArray}{p:Nat}{N:List Nd}{d:az}{X Y:aB}(h:PV ex B c s p N d X)(k:∀(b:Nat) (a:Array az) (T:Nat),X.heap[b]?=ah (.cells a T)->(T=150\/T=3\/T=136)->Y.heap[b]?=ah (.cells a T)):PV ex B c s p N d Y:=by obtain⟨xs,e,f⟩:=h.row;exact⟨k c _ _ h.at_ (.inr (.inr rfl)),h.lo,xs,qW e λg a i _=>k g a _ i (.inl rfl),f.keep λb a j hc=>⟨j,k b a _ hc (.inr (.inl rfl))⟩⟩
theorem Zu (w:aB)(s:ByteArray):PV (λ_=>False) (w.heap.size+1+1) (w.heap.size+1+1) s 0 [] (.slice af 0 0) (((w.alloc (.cells #[.slice af 0 0,.int .i64 0] 117)).alloc (.cells #[.bool aj] 4)).alloc (.cells #[.string s,.int .i64 0,.slice af 0 0] 136)):=by refine⟨?_,aV _,[],World.ownsRow_nil _ _ _ _,λi n h=>by simp at h⟩;have h:=aT ((w.alloc (.cells #[.slice af 0 0,.int .i64 0] 117)).alloc (.cells #[.bool aj] 4)) (.cells #[.string s,.int .i64 0,.slice af 0 0] 136);rw[jl,jl]at h;exact h
theorem Zv (s:ByteArray)(hs:s.size<=65536)(w:aB):Calls bD 63 #[.string s] w (DF w (wF s.data.toList)):=by
 have bc:∀(fn:Fn) (first cap:Array az) (w:aB),(Instr.makeFunc fn first cap).run bD w=.ok (.func fn first cap) w:=λ_ _ _ _=>rfl
 have J:=ae (Zu w s)
 have y:PLift ((((w.alloc (.cells #[.slice af 0 0,.int .i64 0] 117)).alloc (.cells #[.bool aj] 4)).alloc (.cells #[.string s,.int .i64 0,.slice af 0 0] 136)).heap[w.heap.size]?=ah (.cells #[.slice af 0 0,.int .i64 0] 117)):=⟨by rw[bu _ _ _ (by rw[jl,jl];omega),bu _ _ _ (by rw[jl];omega)];exact aT w _⟩
 have z:PLift ((((w.alloc (.cells #[.slice af 0 0,.int .i64 0] 117)).alloc (.cells #[.bool aj] 4)).alloc (.cells #[.string s,.int .i64 0,.slice af 0 0] 136)).heap[w.heap.size+1]?=ah (.cells #[.bool aj] 4)):=⟨by rw[bu _ _ _ (by rw[jl,jl];omega)];have h:=aT (w.alloc (.cells #[.slice af 0 0,.int .i64 0] 117)) (.cells #[.bool aj] 4);rw[jl]at h;exact h⟩
 have B:PLift (Below w.heap.size w (((w.alloc (.cells #[.slice af 0 0,.int .i64 0] 117)).alloc (.cells #[.bool aj] 4)).alloc (.cells #[.string s,.int .i64 0,.slice af 0 0] 136))):=⟨((iW w _).alloc (by rw[jl];omega) _).alloc (by rw[jl,jl];omega) _⟩;have aG:=ae (MH hs 33);have aa:=ae hs;have K:=ae (show wF s.data.toList=match jd s.data.toList 33 0 []with|some (p,N)=>if p=s.data.toList.length then ah N else af|none=>af from rfl);generalize wF s.data.toList=R at K⊢;clear hs
 go_enter_defers Tryz.func63,Tryz.ntmps63
 go_upto_region 3 with fail
 obtain⟨W0,ab⟩:=iC (((w.alloc (.cells #[.slice af 0 0,.int .i64 0] 117)).alloc (.cells #[.bool aj] 4)).alloc (.cells #[.string s,.int .i64 0,.slice af 0 0] 136));rw[ab]at J y z B⊢;clear ab;have D:=ae (aG.1 (λ_=>False) (w.heap.size+1+1) (w.heap.size+1+1) 0 [] (.slice af 0 0) W0 0 ⟨iG,iG⟩ J.1 (λb h=>h.elim) (jO.nil _) iG (bP _));cases k:jd s.data.toList 33 0 []with
 |none=>
  have L:PLift (R=af):=⟨by rw[K.1,k]⟩;rw[k]at D;clear k
  go_wp2_with(go_at_call 72;refine(D.1).mono ?_;rintro e c ⟨rfl,ac⟩;have E:=ae ac;clear ac)
  have ad:c.heap[w.heap.size]?=ah (.cells #[.slice af 0 0,.int .i64 0] 117):=by rw[E.1.block _ iE];exact y.1
  have ai:c.heap[w.heap.size+1]?=ah (.cells #[.bool aj] 4):=by rw[E.1.block _ iE];exact z.1
  have aL:w.heap.size<=c.heap.size:=ay B.1.size E.1.size;refine bQ (f:=71) (args:=#[.pointer (ah ⟨w.heap.size,0,af⟩),.pointer (ah ⟨w.heap.size+1,0,af⟩)]) iH (by simp[go_sem]) ?_;refine(Zr w.heap.size (w.heap.size+1) _ _ _ c ad ai).mono ?_;rintro e u' w3 ⟨rfl,rfl,t,ak,al⟩;have am:=al w.heap.size (aV _) iE aL;have aM:=iK t 0 (.slice af 0 0);have aR:=iK t 1 (.int .i64 0);have a0:=iK ak 0 (.bool aj)
  have M:PLift (DF w R (.returned (.tuple #[.agg #[.slice af 0 0,.int .i64 0],.bool aj])) w3):=⟨by unfold DF;rw[L.1];exact⟨_,_,_,rfl,B.1.trans ((E.1.mono iE).trans am)⟩⟩
  clear ad ai t ak al am;simp only[settle,List.dropWhile_nil];refine⟨.tuple #[.agg #[.slice af 0 0,.int .i64 0],.bool aj],?_,M.1⟩;simp only[results,bI];go_simp
 |some r=>
  obtain⟨l,N⟩:=r;have L:PLift (R=if l=s.data.toList.length then ah N else af):=⟨by rw[K.1,k]⟩;have O:=ae (uH _ 33 _ _ _ _ k (bP _) (jO.nil _));rw[k]at D;clear k
  go_upto_region 4 with(go_at_call 72;refine(D.1).mono ?_;rintro e c ⟨rfl,bd,an,ao⟩;have d:=ae (iJ an ao);clear an ao)
  have be:=ae (d.1.1.nodes O.1.top)
  have u:PLift (c.heap[w.heap.size]?=ah (.cells #[.slice af 0 0,.int .i64 0] 117)):=⟨by rw[d.1.2.block _ (block_lt y.1) iE (λe=>by cases e)];exact y.1⟩
  have ap:PLift (c.heap[w.heap.size+1]?=ah (.cells #[.bool aj] 4)):=⟨by rw[d.1.2.block _ (block_lt z.1) iE (λe=>by cases e)];exact z.1⟩
  obtain⟨xs,aq,-⟩:=d.1.1.row;obtain⟨A,C,rfl⟩:=mW aq;clear aq;have bf:(l:Int)<=65536:=by have:=O.1.fin;rw[kC]at this;have:=aa.1;omega
  have bg:(s.size:Int)<=65536:=by have:=aa.1;omega
  obtain⟨tb,a1⟩:∃tb:Bool,((l:Int)==(s.size:Int))=tb:=⟨_,rfl⟩;have a2:=ae a1;have bh:PLift (w.heap.size<c.heap.size/\w.heap.size+1<c.heap.size):=⟨⟨block_lt u.1,block_lt ap.1⟩⟩;refine uZ.LG (aF:=?aF) 12 1 1 (λW=>∃n,W=c.drewN n) (λW=>W.heap[w.heap.size+1+1]?=ah (.cells #[.string s,.int .i64 l,.slice A N.length C] 136)) (λa b=>∃n,b=a.drewN n) (λ_ _=>False) iF rfl iF iF iF iF (λW=>⟨0,rfl⟩) ?z0 ?z1 ⟨1,rfl⟩ (λ_ _ _ _ h=>h.elim) ?hA ?hN
  case z0=>rintro _ _ ⟨n,rfl⟩ ⟨j,rfl⟩;exact⟨n+j,by simp[bT,bJ]⟩
  case z1=>rintro _ ⟨n,rfl⟩;exact d.1.1.at_
  case hA=>
   intro ρ P;have a6:=iK P 1 (.int .i64 l);have bi:=iK P 2 (.slice A N.length C);clear P;dsimp only[List.take]
   repeat(go_big_quiet_step(fail))
   apply aQ;exact rfl
  case hN=>
   refine uZ.Dy (i:=12) iF (by rfl) (by rfl) (λv W=>∃n,W=(((c.setCell ⟨w.heap.size,0,af⟩ (.slice A N.length C)).setCell ⟨w.heap.size,1,af⟩ (.int .i64 0)).drewN n)) ?hR ?hD ?z2 ?hK
   case hR=>rintro _ _ _ ⟨n,rfl⟩ ⟨j,rfl⟩;exact⟨n+j,by simp[bT,bJ]⟩
   case hD=>rintro _ _ ⟨n,rfl⟩;show((c.setCell ⟨w.heap.size,0,af⟩ (.slice A N.length C)).setCell ⟨w.heap.size,1,af⟩ (.int .i64 0)).heap[w.heap.size+1+1]?=_;rw[jm _ iE,jm _ iE];exact d.1.1.at_
   case z2=>
    rintro _ ⟨n,rfl⟩;have ar:=iK u.1 0 (.slice af 0 0);have a6:=iK u.1 1 (.int .i64 0);have av:∀o,c.frozen? ⟨w.heap.size,o,af⟩=aj:=λo=>au u.1 o
    go_simp;exact⟨n,rfl⟩
   case hK=>
    intro v W bj;refine⟨?_,?_⟩
    ·intro j aw
     rw[show Region.ready .any _ _=[13]from by kernel_rfl]at aw;simpa using aw
    ·rintro _ ⟨n,rfl⟩
     have Q:(((c.setCell ⟨w.heap.size,0,af⟩ (.slice A N.length C)).setCell ⟨w.heap.size,1,af⟩ (.int .i64 0)).drewN n).heap[w.heap.size]?=ah (.cells #[.slice A N.length C,.int .i64 0] 117):=by have h:=u.1;show((c.setCell ⟨w.heap.size,0,af⟩ (.slice A N.length C)).setCell ⟨w.heap.size,1,af⟩ (.int .i64 0)).heap[w.heap.size]?=_;simp[aP,aO,h]
     have x:(((c.setCell ⟨w.heap.size,0,af⟩ (.slice A N.length C)).setCell ⟨w.heap.size,1,af⟩ (.int .i64 0)).drewN n).heap[w.heap.size+1]?=ah (.cells #[.bool aj] 4):=by show((c.setCell ⟨w.heap.size,0,af⟩ (.slice A N.length C)).setCell ⟨w.heap.size,1,af⟩ (.int .i64 0)).heap[w.heap.size+1]?=_;rw[jm _ iE,jm _ iE];exact ap.1
     have S:PV (λ_=>False) (w.heap.size+1+1) (w.heap.size+1+1) s l N (.slice A N.length C) (((c.setCell ⟨w.heap.size,0,af⟩ (.slice A N.length C)).setCell ⟨w.heap.size,1,af⟩ (.int .i64 0)).drewN n):=by
      refine d.1.1.far λb a9 T m U=>?_
      have F:b≠w.heap.size:=by rintro rfl;rw[u.1]at m;cases m;exact absurd U iG
      show((c.setCell ⟨w.heap.size,0,af⟩ (.slice A N.length C)).setCell ⟨w.heap.size,1,af⟩ (.int .i64 0)).heap[b]?=_;rw[jm _ F,jm _ F];exact m
     have X:Below w.heap.size w (((c.setCell ⟨w.heap.size,0,af⟩ (.slice A N.length C)).setCell ⟨w.heap.size,1,af⟩ (.int .i64 0)).drewN n):=
      ((((B.1.trans ((d.1.2.base (bK (block_lt J.1.at_)) (aV _) (λg e=>by cases e)).mono iE)).setCell (p:=⟨w.heap.size,0,af⟩) (aV _) _).setCell (p:=⟨w.heap.size,1,af⟩) (aV _) _)).trans (((Same.refl _).drewN n).below _)
     obtain⟨V,aD⟩:=iC (((c.setCell ⟨w.heap.size,0,af⟩ (.slice A N.length C)).setCell ⟨w.heap.size,1,af⟩ (.int .i64 0)).drewN n);rw[aD]at Q x S X⊢;have ar:=iK x 0 (.bool aj);have av:∀o,V.frozen? ⟨w.heap.size+1,o,af⟩=aj:=λo=>au x o
     refine uZ.LH (i:=13) (W':=V.setCell ⟨w.heap.size+1,0,af⟩ (.bool tb)) iF (by rfl) (by rfl) rfl iF ?z3 ?z4
     case z3=>go_simp
     case z4=>
      have G:(V.setCell ⟨w.heap.size+1,0,af⟩ (.bool tb)).heap[w.heap.size]?=ah (.cells #[.slice A N.length C,.int .i64 0] 117):=(by rw[jm _ iE];exact Q);have Y:(V.setCell ⟨w.heap.size+1,0,af⟩ (.bool tb)).heap[w.heap.size+1]?=ah (.cells #[.bool tb] 4):=by simp[aP,aO,x]
      have Z:jJ (V.setCell ⟨w.heap.size+1,0,af⟩ (.bool tb)) (.slice A N.length C) N:=by
       refine(S.far λb a9 T m U=>?_).nodes O.1.top
       have F:b≠w.heap.size+1:=by rintro rfl;rw[x]at m;cases m;exact absurd U iG
       rw[jm _ F];exact m
      have H:Below w.heap.size w (V.setCell ⟨w.heap.size+1,0,af⟩ (.bool tb)):=X.setCell (p:=⟨w.heap.size+1,0,af⟩) (by show w.heap.size<=w.heap.size+1;omega) _;obtain⟨q,aE⟩:=iC (V.setCell ⟨w.heap.size+1,0,af⟩ (.bool tb));rw[aE]at G Y Z H⊢
      have M:PLift (DF w R (.returned (.tuple #[.agg #[.slice A N.length C,.int .i64 0],.bool tb])) q):=⟨by
       have t:=a2.1;rw[L.1];by_cases I:l=s.data.toList.length
       ·rw[gY I]
        have:tb=aK:=(by rw[<-t,beq_iff_eq,I,kC]);rw[this];exact⟨_,rfl,Z,H⟩
       ·rw[gZ I]
        have:tb=aj:=(by rw[<-t,iy];intro e;exact I (by rw[kC];omega));rw[this];exact⟨_,_,_,rfl,H⟩⟩
      have aM:=iK G 0 (.slice A N.length C);have aR:=iK G 1 (.int .i64 0);have a0:=iK Y 0 (.bool tb);clear G Y Z H Q x S X ar av aD aE;go_wp2;refine bQ (f:=71) (args:=#[.pointer (ah ⟨w.heap.size,0,af⟩),.pointer (ah ⟨w.heap.size+1,0,af⟩)]) iH (by simp[go_sem]) ?_;refine(Zt w.heap.size (w.heap.size+1) q).mono ?_;rintro e u' w3 ⟨rfl,rfl,rfl⟩;simp only[settle];refine⟨.tuple #[.agg #[.slice A N.length C,.int .i64 0],.bool tb],?_,M.1⟩;simp only[results,bI];go_simp
end Go.Proofs.YthcalnnipjflkaaGreatDoor
namespace Go.Proofs.YthcalnnipjflkaaGreatDoor
open Go.RowKit Go.Sort
open Go.Lib hiding intOf
section
variable {N:List Nd} {v:az} {root:Int} {tb sr:Nat} {ent:Nat->List Int} {w0:aB} {E:List az} {X Y:aB}
theorem CT.other (h:CT N v root tb sr ent w0 E X)(k:Nat)(g:Y.os=X.os)(j:Y.tape=X.tape)(l:Y.output=X.output)(m:X.heap.size<=Y.heap.size)(a:∀q,q<X.heap.size->q≠k->Y.heap[q]?=X.heap[q]?)(s:w0.heap.size<=k)(n:k≠tb)(o:k≠sr)
  (p:∀i,i<N.length->∀b L c,E.getD i jr=.slice (ah ⟨b,0,af⟩) L c->b≠k):CT N v root tb sr ent w0 E Y where
 nodes:=h.nodes
 below:=⟨g.trans h.below.os,j.trans h.below.tape,l.trans h.below.output,ay h.below.size m,λq e=>by rw[a q (aS e h.below.size) iE];exact h.below.block q e⟩
 lo:=h.lo
 tab:=⟨by rw[a _ (block_lt h.tab.box) (Ne.symm n)];exact h.tab.box,by rw[a _ (block_lt h.tab.row) (Ne.symm o)];exact h.tab.row,h.tab.len,h.tab.ne⟩
 val:=λi hi=>by
  rcases h.val i hi with d|⟨b,d,f,r⟩
  ·exact .inl d
  ·exact .inr ⟨b,d,by rw[a _ (block_lt f) (p i hi _ _ _ d)];exact f,r⟩
theorem CT.KF (h:CT N v root tb sr ent w0 E X){i:Nat}(hi:i<N.length){b L c:Nat}(he:E.getD i jr=.slice (ah ⟨b,0,af⟩) L c):b<X.heap.size:=by
 rcases h.val i hi with a|⟨e,a,d,_⟩
 ·rw[a]at he;simp[jr]at he
 ·rw[a]at he
  injection he with he;injection he with he;injection he with he;rw[<-he];exact block_lt d
end
structure SS (N:List Nd)(v:az)(root:Int)(tb sr:Nat)(ent:Nat->List Int)(w0:aB)(blk n:Nat)(W2:aB)(E2:List az)(P:Nat->Prop)(d:Array Int)(X:aB):Prop where
 sz:d.size=n
 rg:∀i,i<n->0<=d[i]!/\d[i]!<(n:Int)
 pm:d.toList.Perm (nC n).toList
 row:X.heap[blk]?=ah (.cells (d.toList.map (bn .i64)).toArray 3)
 ct:∃E,CT N v root tb sr ent w0 E X/\(∀i,i<N.length->∀eb L c,E.getD i jr=.slice (ah ⟨eb,0,af⟩) L c->eb≠blk/\¬P eb)/\
  ∀i,E.getD i jr=E2.getD i jr\/∃eb L c,E.getD i jr=.slice (ah ⟨eb,0,af⟩) L c/\W2.heap.size<=eb
 pl:∀p,P p->p<X.heap.size
 os:X.os=W2.os
 tape:X.tape=W2.tape
 output:X.output=W2.output
 size:W2.heap.size<=X.heap.size
 block:∀k,k<W2.heap.size->k≠sr->k≠blk->X.heap[k]?=W2.heap[k]?
structure SP (tb sr blk:Nat)(w0 W2:aB):Prop where
 lb:blk<W2.heap.size
 ls:sr<W2.heap.size
 lt:tb<W2.heap.size
 lo:w0.heap.size<=blk
 ns:blk≠sr
 nt:blk≠tb
section
variable {N:List Nd} {v:az} {root:Int} {tb sr:Nat} {ent:Nat->List Int} {w0:aB} {blk n:Nat} {W2:aB} {E2:List az} {P:Nat->Prop} {d:Array Int} {X Y:aB}
theorem SS.grow (h:SS N v root tb sr ent w0 blk n W2 E2 P d X)(a:Below X.heap.size X Y):SS N v root tb sr ent w0 blk n W2 E2 P d Y where
 sz:=h.sz
 rg:=h.rg
 pm:=h.pm
 row:=Mix.lu a h.row
 ct:=by obtain⟨E,b,c⟩:=h.ct;exact⟨E,b.keep a,c⟩
 pl:=λp hp=>aS (h.pl p hp) a.size
 os:=a.os.trans h.os
 tape:=a.tape.trans h.tape
 output:=a.output.trans h.output
 size:=ay h.size a.size
 block:=λk e b c=>by rw[a.block k (aS e h.size)];exact h.block k e b c
theorem SS.turn (h:SS N v root tb sr ent w0 blk n W2 E2 P d X)(hp:SP tb sr blk w0 W2)(k:Nat)(b:Array Int)(a:k=blk\/(W2.heap.size<=k/\P k))(l:Y.os=X.os)(m:Y.tape=X.tape)(o:Y.output=X.output)(r:Y.heap.size=X.heap.size)(s:∀q,q≠k->Y.heap[q]?=X.heap[q]?)
  (t:b.size=n)(u:∀i,i<n->0<=b[i]!/\b[i]!<(n:Int))(w:b.toList.Perm (nC n).toList)(x:Y.heap[blk]?=ah (.cells (b.toList.map (bn .i64)).toArray 3)):SS N v root tb sr ent w0 blk n W2 E2 P b Y where
 sz:=t
 rg:=u
 pm:=w
 row:=x
 ct:=by
  obtain⟨E,g,f,y⟩:=h.ct;have A:=hp.ls;have B:=hp.lt;have C:=hp.lb;refine⟨E,g.other k l m o iE (λq _ j=>s q j) ?_ ?_ ?_ (λi hi z L c he=>?_),f,y⟩
  ·rcases a with rfl|a
   ·exact hp.lo
   ·have:=hp.lo;omega
  ·rcases a with rfl|a
   ·exact hp.nt
   ·omega
  ·rcases a with rfl|a
   ·exact hp.ns
   ·omega
  ·have:=f i hi z L c he
   rcases a with rfl|a
   ·exact this.1
   ·intro e;exact this.2 (e▸a.2)
 pl:=λp hp=>by rw[r];exact h.pl p hp
 os:=l.trans h.os
 tape:=m.trans h.tape
 output:=o.trans h.output
 size:=by rw[r];exact h.size
 block:=λq j g f=>by
  rw[s q (by
    rcases a with rfl|a;· exact f
    ·omega)]
  exact h.block q j g f
end
theorem Xn (c:Nat->Nat->Int)(n:Nd){x y:Int}(d:0<=x)(hx:x<(n.keys.length:Int))(e:0<=y)(hy:y<(n.keys.length:Int)):uX c n x y=c (n.keys.getD x.toNat 0).toNat (n.keys.getD y.toNat 0).toNat:=by
 have a:x.toNat<n.keys.length:=iE
 have b:y.toNat<n.keys.length:=iE
 unfold uX kW;rw[aN a,aN b,aX,aX,aN a,aN b]
 rfl
theorem Xo {d:Array Int}{a b:Nat}(ha:a<d.size)(c:b<d.size):(swp d a b).toList.Perm d.toList:=by have h:=perm_set_set d.toList a b (by simpa using ha) (by simpa using c);unfold swp;simpa[ha,c]using h
theorem Xp (d:Array Int){i:Nat}(hi:i<d.size):(d.toList.map (bn .i64)).toArray[i]?=ah (.int .i64 d[i]!):=by simp[hi]
theorem KG (d:Array Int)(i:Nat)(x:Int):((d.toList.map (bn .i64)).toArray).setIfInBounds i (.int .i64 x)=((d.setIfInBounds i x).toList.map (bn .i64)).toArray:=by
 apply Array.ext_getElem?;intro k;by_cases e:i=k
 ·subst e
  by_cases h:i<d.size<;>simp[h,aW]
 ·simp[aW,e]
theorem Fv {W:aB}{b:Nat}{a:Array az}{T:TypeId}(h:W.heap[b]?=ah (.cells a T))(o:Nat)(x:az):(W.setCell ⟨b,o,af⟩ x).heap[b]?=ah (.cells (a.setIfInBounds o x) T):=by simp[aP,aO,h]
theorem uY {W:aB}{b o k:Nat}(x:az)(h:k≠b):(W.setCell ⟨b,o,af⟩ x).heap[k]?=W.heap[k]?:=by simp[aP,aO,Ne.symm h]
theorem Dh (W:aB)(b o:Nat)(x:az):(W.setCell ⟨b,o,af⟩ x).heap.size=W.heap.size:=by simp[aP]
section
variable {N:List Nd} {v:az} {root:Int} {tb sr:Nat} {ent:Nat->List Int} {w0:aB} {blk n:Nat} {W2:aB} {E2:List az}
theorem KH (hp:SP tb sr blk w0 W2)(c:Nat->Nat->Int){i m r nb no:Nat}(hi:i<N.length)(hn:(N.getD i nd0).keys.length=n){vc:Nat}(hv:v=.slice (ah ⟨nb,no,af⟩) N.length vc)
  (hc:∀a b,a<n->b<n->pU N v root tb sr ent w0 ((N.getD i nd0).keys.getD a 0) ((N.getD i nd0).keys.getD b 0) (c ((N.getD i nd0).keys.getD a 0).toNat ((N.getD i nd0).keys.getD b 0).toNat))
  (C:W2.heap[m]?=ah (.cells #[.pointer (ah ⟨tb,0,af⟩)] 138))(D:W2.heap[r]?=ah (.cells #[.pointer (ah ⟨nb,no+i*5,af⟩)] 154))(z:m≠sr/\m≠blk)(A:r≠sr/\r≠blk)(P:Nat->Prop):
  lH W2.heap.size blk 0 n 110 #[.pointer (ah ⟨m,0,af⟩),.pointer (ah ⟨r,0,af⟩)] (uX c (N.getD i nd0)) P (SS N v root tb sr ent w0 blk n W2 E2 P) where
 enters:=enters_of Tryz.func110 iF rfl
 row:=λd W h=>⟨h.sz,λk f=>⟨by rw[bG,rP h.row];exact Xp d (by rw[h.sz];exact f),Fe h.row _⟩⟩
 drew:=λd W h=>h.grow ⟨rfl,rfl,rfl,aV _,λ_ _=>rfl⟩
 alloc:=λd W o h=>h.grow (iW W o)
 swap:=λd W a b h ha s=>by
  have F:a<d.size:=by rw[h.sz];exact ha
  have G:b<d.size:=by rw[h.sz];exact s
  refine h.turn hp blk _ (.inl rfl) rfl rfl rfl (by rw[Dh,Dh]) (λq w=>by rw[uY _ w,uY _ w]) (by rw[swp_size];exact h.sz) (λk f=>?_) ?_ ?_
  ·rw[swp_get d F G]
   split
   ·exact h.rg a ha
   ·split
    ·exact h.rg b s
    ·exact h.rg k f
  ·exact(Xo F G).trans h.pm
  ·rw[bG,bG,Fv (Fv h.row _ _),KG,KG]
   rfl
 box:=λd W p x h s t=>by have O:=hp.lb;refine h.turn hp p d (.inr ⟨s,t⟩) rfl rfl rfl (by rw[Dh]) (λq w=>by rw[uY _ w]) h.sz h.rg h.pm ?_;rw[uY _ iE];exact h.row
 lo:=λd W h=>⟨hp.lb,h.size⟩
 cmp:=λd W a b h ha s=>by
  obtain⟨E,Q,R,S⟩:=h.ct;have r1:=h.rg a ha;have r2:=h.rg b s;obtain⟨x,hx⟩:∃x:Nat,d[a]! =(x:Int):=⟨d[a]!.toNat,iE⟩;obtain⟨y,hy⟩:∃y:Nat,d[b]! =(y:Int):=⟨d[b]!.toNat,iE⟩;have H:x<n:=iE
  have I:y<n:=iE
  rw[Xn c (N.getD i nd0) r1.1 (by rw[hn];exact r1.2) r2.1 (by rw[hn];exact r2.2),hx,hy,Int.toNat_natCast,Int.toNat_natCast];have T:=block_lt C;have U:=block_lt D;refine(WA x y i m r nb no _ hi (by rw[hn];exact H) (by rw[hn];exact I) hv (hc x y H I) Q (by rw[h.block m T z.1 z.2];exact C) (by rw[h.block r U A.1 A.2];exact D) z.1 A.1).mono ?_;rintro e Y ⟨he,V,X,f⟩;have ab:=hp.ls;have O:=hp.lb;have ac:=h.size;refine⟨he,⟨h.sz,h.rg,h.pm,?_,⟨V,X,?_,?_⟩,λp t=>aS (h.pl p t) f.g.size,f.g.os.trans h.os,f.g.tape.trans h.tape,f.g.output.trans h.output,ay h.size f.g.size,?_⟩,?_⟩
  ·rw[f.g.block blk (block_lt h.row) (by intro e;injection e with e;exact hp.ns e)];exact h.row
  ·intro k B Z L aa l
   rcases f.new k with j|⟨J,K,M,j,u⟩
   ·exact R k B Z L aa (j.symm.trans l)
   ·rw[j]at l
    injection l with l;injection l with l;injection l with l;subst l;exact⟨iE,λt=>by have:=h.pl _ t;omega⟩
  ·intro k
   rcases f.new k with j|⟨J,K,M,j,u⟩
   ·rw[j];exact S k
   ·exact .inr ⟨J,K,M,j,iE⟩
  ·intro k B j u
   rw[f.g.block k iE (by intro e;injection e with e;exact j e)];exact h.block k B j u
  ·exact⟨f.g.size,λp j u=>f.g.block p u (by intro e;injection e with e;omega)⟩
theorem Xq (hp:SP tb sr blk w0 W2)(c:Nat->Nat->Int){i g j nb no:Nat}(hi:i<N.length)(hn:(N.getD i nd0).keys.length=n){vc:Nat}(hv:v=.slice (ah ⟨nb,no,af⟩) N.length vc)
  (hc:∀a b,a<n->b<n->pU N v root tb sr ent w0 ((N.getD i nd0).keys.getD a 0) ((N.getD i nd0).keys.getD b 0) (c ((N.getD i nd0).keys.getD a 0).toNat ((N.getD i nd0).keys.getD b 0).toNat))
  (w:W2.heap[g]?=ah (.cells #[.pointer (ah ⟨tb,0,af⟩)] 138))(x:W2.heap[j]?=ah (.cells #[.pointer (ah ⟨nb,no+i*5,af⟩)] 154))(y:g≠sr/\g≠blk)(z:j≠sr/\j≠blk):
  Ak W2.heap.size blk 0 n 110 #[.pointer (ah ⟨g,0,af⟩),.pointer (ah ⟨j,0,af⟩)] (uX c (N.getD i nd0)) (SS N v root tb sr ent w0 blk n W2 E2 (λ_=>False)) where
 c:=KH hp c hi hn hv hc w x y z _
 ext:=⟨λp=>SS N v root tb sr ent w0 blk n W2 E2 (λq=>q=p),λp=>⟨KH hp c hi hn hv hc w x y z _,λd W o h A=>by
  have f:=h.grow (iW W o);obtain⟨E,l,r,s⟩:=h.ct;exact⟨f.sz,f.rg,f.pm,f.row,⟨E,l.keep (iW W o),λk m t L u he=>⟨(r k m t L u he).1,λe=>by have:=l.KF m he;omega⟩,s⟩,λq B=>by rw[jl];omega,f.os,f.tape,f.output,f.size,f.block⟩,
  λd W h=>by obtain⟨E,l,r,s⟩:=h.ct;exact⟨h.sz,h.rg,h.pm,h.row,⟨E,l,λk m t L u he=>⟨(r k m t L u he).1,λe=>e⟩,s⟩,λ_ hF=>hF.elim,h.os,h.tape,h.output,h.size,h.block⟩⟩⟩
end
