import Derived.Test.YthcalnnipjflkaaGreatDoorP24
import Derived.Tactics
import Derived.Tactics2
import Derived.Defers
import Derived.Recover
import Derived.Laws.Pointers
open Option renaming none -> ae, some -> af, isSome_iff_exists -> aP, map_some -> dD
open PLift renaming up -> ag
open Go.Lib renaming cell_of_heap -> ah, frozen_of_heap -> aB, IsBuilder -> bn, indexAny -> bI, alloc_old -> bU, indexByte -> di, drop_at -> dO
open Go renaming Value -> aj, World -> ax, bodyPost_ret -> aT, results_cell_row -> aU, heap_alloc_new -> aX, Operand -> bH, wpQuiet_nil -> bT, Oper -> dn, callsD_of_wpS -> dH, Calls -> dP
open List renaming replicate -> au, getElem?_append_right -> aK, getElem?_set_ne -> aO, length_set -> aV, length_singleton -> aY, getD_eq_getElem?_getD -> aZ, getElem?_eq_some_iff -> bu, length_append -> bF, eq_nil_of_length_eq_zero -> bK, getElem?_append_left -> bV, getElem?_eq_getElem -> bW, getElem?_take_of_lt -> bY, singleton_append -> dh, append_assoc -> dw, getElem?_set -> dA, any_eq_true -> dC, map_append -> dF
open Bool renaming false -> ay, true -> az, false_eq_true -> dm
open Go.World renaming setCell -> aA, ownsRow_nil -> dB
open Array renaming getElem?_modify -> aC, size_modify -> aI, replicate -> bJ
open Go.Proofs.Tryz renaming prog -> aH, underlying150 -> aS, ntmps88 -> bD, func88 -> bG, results71 -> dG, ntmps84 -> dI, ntmps71 -> dK, func84 -> dL, func92 -> dM, func71 -> dN
open Nat renaming le_trans -> aJ, lt_of_lt_of_le -> aN, le_refl -> aW, mul_div_cancel_left -> bZ, zero_le -> cu, zero_add -> dJ
open Go.RowKit renaming Below -> aQ
open Go.RowKit.Below renaming heap_setCell -> bz
open Go.Value renaming int -> bC, nilIface -> bP, iface -> cZ
open UInt8 renaming ofNat -> bQ, toNat_inj -> dE
set_option linter.all false
set_option maxHeartbeats 4000000
set_option maxRecDepth 100000
namespace Go.Proofs.YthcalnnipjflkaaGreatDoor
open Go.RowKit
open Go.Lib hiding intOf
theorem Lr (w:List UInt8):∀i,(mV w i).length=w.length/2:=by
 intro i;unfold mV
 have h:∀(l:List Nat) (R:List UInt8),(l.foldl (xE w) R).length=R.length:=by
  intro l
  induction l with
  |nil=>intro R;rfl
  |cons x l a=>intro R;rw[List.foldl_cons,a];unfold xE;rw[aV]
 rw[h,List.length_replicate]
theorem Yp (w:List UInt8)(i:Nat):mV w (i+1)=xE w (mV w i) i:=by
 unfold mV;rw[List.range_succ,List.foldl_append]
 rfl
def Rd (pb:Nat)(s:ByteArray)(nv:aj)(X:ax)(r:Option (List UInt8×Nat))(e:Ending)(Y:ax):Prop:=
 (match r with
  |some (t,q)=>e=.returned (.string ⟨t.toArray⟩)/\jw Y pb s q nv
  |none=>e=.panicked tK)/\PS pb X Y
theorem Yq (x:UInt8):IntKind.u8.wrap ((x.toNat:Int)*16)=(((x<<<4).toNat:Nat):Int):=vz (p:=λx=>IntKind.u8.wrap ((x.toNat:Int)*16)=(((x<<<4).toNat:Nat):Int)) (by decide+kernel) x
theorem u8_or (x:UInt8)(d:Nat)(hd:d<16):bits .or .u8 (((x<<<4).toNat:Nat):Int) (d:Int)=((((x<<<4)|||bQ d).toNat:Nat):Int):=by have h:=vz (p:=λx=>∀d:Fin 16,bits .or .u8 (((x<<<4).toNat:Nat):Int) ((d.val:Nat):Int)=((((x<<<4)|||bQ d.val).toNat:Nat):Int)) (by decide+kernel) x;exact h ⟨d,hd⟩
theorem Yr {l:List UInt8}{i:Nat}(h:i<l.length):l.getD i 0∈l:=by rw[aZ,bW h];exact List.getElem_mem h
theorem Yt (c:UInt8):hexN c<16:=vz (p:=λc=>hexN c<16) (by decide+kernel) c
section
variable {w:ax} {pb:Nat} {s:ByteArray} {pos:Nat} {nv:aj}
theorem Yu (hp:jw w pb s pos nv)(hs:s.size<=65536)(O:pos<=s.size):
  dP aH 84 #[.pointer (af ⟨pb,0,ae⟩)] w (Rd pb s nv w ((uG (jq (s.data.toList.drop pos))).map λt=>(t,pos+(jq (s.data.toList.drop pos)).length))):=by
 have l:=ag (AA hp hs O);have H:=Du (s.data.toList.drop pos);rw[Dv]at H;generalize jq (s.data.toList.drop pos)=W at l H⊢;have f:=ag (show uG W=if W.length%2=1 then ae else if W.any (λc=>decide (hexN c<0))then ae else af (mV W W.length)from rfl);generalize uG W=R at f⊢;have P:(⟨W.toArray⟩:ByteArray).size=W.length:=by show W.toArray.size=_;simp
 obtain⟨n,hn⟩:=iC W.length;rw[hn]at l f H P⊢;have aL:(n:Int)<=65536:=iE
 have q:=ag hn;clear hp hn O hs;obtain⟨ws,I⟩:∃ws:ByteArray,(⟨W.toArray⟩:ByteArray)=ws:=⟨_,rfl⟩;rw[I]at l P;have Q:ws.data.toList=W:=by rw[<-I]
 have ao:=ag Q;clear I Q;by_cases S:n%2=1
 ·have g:=ag (f.1.trans (gY S))
  have hr:((n:Int)%2!=0)=az:=by rw[bne_iff_ne];omega
  as_aux_lemma=>
  go_enter dL,dI
  go_wp2_with(go_at_call 85;refine(l.1).mono ?_;rintro e a ⟨rfl,A,r⟩;have B:=ag r;clear A r)
  refine⟨rfl,?_⟩;rw[g.1];exact⟨rfl,B.1⟩
 ·have f:=ag (f.1.trans (gZ S))
  have hr:((n:Int)%2!=0)=ay:=by rw[bne_eq_false_iff_eq];omega
  obtain⟨m,hm⟩:∃m,n=2*m:=⟨n/2,iE⟩;have aM:(n:Int)/2=(m:Nat):=iE
  as_aux_lemma=>
  go_enter dL,dI
  go_upto_region 4 with(go_at_call 85;refine(l.1).mono ?_;rintro e a ⟨rfl,A,r⟩;have B:=ag r;have ap:=ag A;clear A r)
  go_wp2_with(refine vM Tryz.underlying49 Ba rfl _ rfl _ _ rfl m a.heap.size rfl rfl iE iE rfl ?_)
  intro T U
  have V:PLift (jI T a.heap.size (mV W 0)/\aQ a.heap.size a T):=⟨by rw[U];refine⟨?_,iW a _⟩;have e:mV W 0=au m 0:=(by unfold mV;rw[q.1,hm,bZ m iG];rfl);rw[e];unfold jI;rw[Bc];exact aX a _⟩
  clear U
  as_aux_lemma=>
  go_wp2
  go_loopw [21] (λJ wr=>∃i:Nat,J=.int .i64 i/\i<=2*m/\jI wr a.heap.size (mV W i)/\aQ a.heap.size a wr/\∀j,j<i->0<=hexN (W.getD j 0)) (λJ _=>2*m - (intOf J).toNat)
  case atStart=>exact⟨0,rfl,cu _,V.1.1,V.1.2,λj h=>absurd h (Nat.not_lt_zero _)⟩
  case round=>
   as_aux_lemma=>
   obtain⟨i,rfl,hi,K,X,Y⟩:=hrel;obtain⟨L,aq⟩:∃L:ax,L=wr:=⟨_,rfl⟩;subst aq;have b:=ag (iJ K (iJ X Y));clear X Y;by_cases C:i<2*m
   ·have aR:(i:Int)<2*(m:Int):=iE
    have aa:i<ws.size:=iE;obtain⟨x,hx⟩:∃x:UInt8,ws[i]'aa=x:=⟨_,rfl⟩
    have ab:W.getD i 0=x:=by
     rw[<-ao.1,aZ,Lib.data_getElem? ws i aa,hx]
     rfl
    have D:=ag λZ:ax=>Tryz.strings_IndexByte ⟨#[48,49,50,51,52,53,54,55,56,57,97,98,99,100,101,102]⟩ (x.toNat:Nat) Z
    have ac:((x.toNat:Int)).toNat.toUInt8=x:=iH;rw[ac,show di (⟨#[48,49,50,51,52,53,54,55,56,57,97,98,99,100,101,102]⟩:ByteArray).data.toList x=hexN x from rfl]at D;have ar:=Yt x;have E:=ag (iJ ab C);obtain⟨d,hd⟩:=iC (hexN x);have M:=ag hd;rw[hd]at D ar;clear hd ac ab K;by_cases ad:d<0
    ·have g:=ag (f.1.trans (gY (by
      rw[dC];refine⟨x,?_,by rw[decide_eq_true_eq,M.1];exact ad⟩;rw[<-E.1.1];exact Yr (by rw[q.1,hm];exact E.1.2))))
     clear C
     as_aux_lemma=>
     go_wp2_with(go_at_call 47;refine(D.1 _).mono ?_;rintro e w3 ⟨rfl,rfl⟩)
     refine⟨rfl,?_⟩;rw[g.1];exact⟨rfl,B.1.trans (PK.below b.1.2.1)⟩
    ·obtain⟨dd,rfl⟩:=Int.eq_ofNat_of_zero_le (show 0<=d by omega)
     obtain⟨k,ai⟩:=iC (i/2);have a0:(i:Int)/2=(k:Nat):=iE;have a1:k<m:=iE;have a2:(k:Int)<(m:Int):=iE;have ak:k<(mV W i).length:=(by rw[Lr,q.1,hm];omega);have e1:=b.1.1.cell ak;have N:=b.1.1.set k (((mV W i).getD k 0<<<4)|||bQ dd)
     have al:mV W (i+1)=(mV W i).set k (((mV W i).getD k 0<<<4)|||bQ dd):=by rw[Yp];unfold xE;rw[ai,E.1.1,M.1,Int.toNat_natCast]
     rw[<-al]at N;have F:=ag N;have a3:∀o,L.frozen? ⟨a.heap.size,o,ae⟩=ay:=λo=>aB b.1.1 o
     have hdd:dd<16:=iE;generalize(mV W i).getD k 0=y at e1 F;have av:=Yq y;have am:=u8_or y dd hdd;have a4:IntKind.u8.wrap (dd:Int)=(dd:Int):=(by unfold IntKind.wrap;simp[IntKind.bits,IntKind.signed];omega);generalize y<<<4=z at av am F;generalize z|||bQ dd=u at am F
     have aw:PLift (∀j,j<i+1->0<=hexN (W.getD j 0)):=⟨λj G=>by
      by_cases aD:j<i
      ·exact b.1.2.2 j aD
      ·obtain rfl:j=i:=iE
       rw[E.1.1,M.1]
       omega⟩
     have an:=ag C;clear ai ak N al hdd ad C
     as_aux_lemma=>
     go_wp2_with(go_at_call 47;refine(D.1 _).mono ?_;rintro e w3 ⟨rfl,rfl⟩)
     go_roundw
     case rel=>exact⟨i+1,by go_num,by have:=an.1;omega,F.1,b.1.2.1.setCell (p:=⟨a.heap.size,k,ae⟩) (aW _) _,aw.1⟩
     case measure=>have:=an.1;simp[intOf];omega
   ·obtain rfl:i=2*m:=iE
    have g:=ag (f.1.trans (gZ (by
     rw[dC];rintro⟨x,hx,h⟩;obtain⟨j,G,rfl⟩:=List.getElem_of_mem hx;have aE:=b.1.2.2 j (by rw[q.1,hm]at G;exact G);rw[aZ,bW G,Option.getD_some]at aE;have:=of_decide_eq_true h
     omega)))
    have aF:(mV W (2*m)).length=m:=(by rw[Lr,q.1,hm,bZ m iG]);have aG:=Hg (cap:=m) K;rw[aF]at aG;rw[hm]at g
    as_aux_lemma=>
    go_wp2;refine aT (v:=.string ⟨(mV W (2*m)).toArray⟩) (by simp only[results,Tryz.results84];go_simp) rfl ?_;rw[g.1];exact⟨⟨rfl,ap.1.grow b.1.2.1⟩,B.1.trans (PK.below b.1.2.1)⟩
end
theorem tN {B b:Nat}{p:List aj}{X Y:ax}(h:bn 51 5 B b p X)(r:∀k,B<=k->k<X.heap.size->Y.heap[k]?=X.heap[k]?):bn 51 5 B b p Y:=by
 have f:∀{k:Nat} {o:Obj},B<=k->X.heap[k]?=af o->Y.heap[k]?=af o:=λs q=>by rw[r _ s (block_lt q)];exact q
 rcases h with⟨c,x,i,d,j⟩|⟨c,x,i,d,j⟩
 ·refine .inl ⟨c,x,f c i,⟨d.1,?_⟩,j⟩
  rcases d.2 with a|⟨g,cap,l,a,e,m,n⟩
  ·exact .inl a
  ·exact .inr ⟨g,cap,l,a,e,f e m,n⟩
 ·refine .inr ⟨c,x,f c i,⟨d.1,?_⟩,j⟩
  rcases d.2 with a|⟨g,cap,l,a,e,m,n⟩
  ·exact .inl a
  ·exact .inr ⟨g,cap,l,a,e,f e m,n⟩
theorem dO {s:ByteArray}{q:Nat}(h:q<s.size):s.data.toList.drop q=s[q]::s.data.toList.drop (q+1):=by
 have a:q<s.data.toList.length:=by simpa using h
 rw[List.drop_eq_getElem_cons a]
 rfl
theorem drop_end {s:ByteArray}{q:Nat}(h:¬q<s.size):s.data.toList.drop q=[]:=List.drop_of_length_le iI
def qU (l:List UInt8)(p:Nat)(acc:List UInt8):Option (List UInt8×Nat):=(oC l).map λt=>(acc++t.1,p+t.2)
theorem Yv (p:Nat)(acc:List UInt8):qU [] p acc=ae:=rfl
theorem Yw (l:List UInt8)(p:Nat)(acc:List UInt8):qU (34::l) p acc=af (acc,p+1):=by unfold qU;rw[oC.eq_def];simp
theorem Yx (p:Nat)(acc:List UInt8):qU [92] p acc=ae:=rfl
theorem Yy (d:UInt8)(l:List UInt8)(p:Nat)(acc:List UInt8):qU (92::d::l) p acc=qU l (p+2) (acc++[d]):=by
 unfold qU;rw[oC.eq_def];simp only[show ¬(92:UInt8)=34 from by decide,if_false,if_true];cases oC l with
 |none=>rfl
 |some t=>simp only[dD,dw,dh];rw[show p+(t.2 +2)=p+2+t.2 by omega]
theorem Yz {c:UInt8}(a:c≠34)(b:c≠92)(l:List UInt8)(p:Nat)(acc:List UInt8):qU (c::l) p acc=qU l (p+1) (acc++[c]):=by
 unfold qU;rw[oC.eq_def];simp only[a,b,if_false];cases oC l with
 |none=>rfl
 |some t=>simp only[dD,dw,dh];rw[show p+(t.2 +1)=p+1+t.2 by omega]
theorem Dw {w W:ax}{n:Nat}(h:aQ (w.drewN n).heap.size (w.drewN n) W):aQ w.heap.size w W:=⟨h.os,h.tape,h.output,h.size,h.block⟩
def posOf (pb:Nat)(X:ax):Nat:=match X.cell? ⟨pb,1,ae⟩with
 |some (.int _ q)=>q.toNat
 |_=>0
theorem pos_at {X:ax}{pb:Nat}{s:ByteArray}{q:Nat}{nv:aj}(h:jw X pb s q nv):posOf pb X=q:=by unfold posOf;have:X.cell? ⟨pb,1,ae⟩=af (.int .i64 q):=(ah h 1).trans rfl;rw[this];simp
section
variable {w:ax} {pb:Nat} {s:ByteArray} {pos:Nat} {nv:aj}
theorem YA (hp:jw w pb s pos nv)(hs:s.size<=65536)(a8:pos<s.size)(hc:s[pos]=34):
  dP aH 83 #[.pointer (af ⟨pb,0,ae⟩)] w (Rd pb s nv w ((oC (s.data.toList.drop (pos+1))).map λt=>(t.1,pos+1+t.2))):=by
 have a9:=ag (Aw 34 hp hs a8 hc);obtain⟨R,hR⟩:=iC ((oC (s.data.toList.drop (pos+1))).map (λt=>(t.1,pos+1+t.2)));rw[hR];have ba:PLift (qU (s.data.toList.drop (pos+1)) (pos+1) []=R):=⟨by rw[<-hR];rfl⟩;have aE:=ag hs;have bb:pb<w.heap.size:=block_lt hp;clear hp hR hc hs
 as_aux_lemma=>
 go_enter Tryz.func83,Tryz.ntmps83
 as_aux_lemma=>
 go_upto_region 2 with(go_at_call 86;refine(a9.1).mono ?_;rintro e b ⟨rfl,aG,aL⟩;have bc:=ag aG;have aa:=ag aL;clear aG aL)
 have G:pb<b.heap.size:=aN bb aa.1.size
 have bd:PLift (jw (b.alloc (.cells #[.pointer ae,.slice ae 0 0] 51)) pb s (pos+1) nv/\PS pb b (b.alloc (.cells #[.pointer ae,.slice ae 0 0] 51))/\bn 51 5 b.heap.size b.heap.size (byteCells []) (b.alloc (.cells #[.pointer ae,.slice ae 0 0] 51))/\b.heap.size<=(b.alloc (.cells #[.pointer ae,.slice ae 0 0] 51)).heap.size):=
  ⟨bc.1.grow (iW b _),PK.below (iW b _),Lib.fresh_isBuilder _ _ b,by rw[jl];omega⟩
 as_aux_lemma=>
 go_wp2
 go_loopw [] (λwr=>∃(q:Nat) (acc:List UInt8),q<=s.size/\acc.length<=q/\pos+1<=q/\qU (s.data.toList.drop q) q acc=R/\jw wr pb s q nv/\PS pb b wr/\bn 51 5 b.heap.size b.heap.size (byteCells acc) wr/\b.heap.size<=wr.heap.size) (λwr=>s.size - posOf pb wr)
 case atStart=>exact⟨pos+1,[],iE,cu _,aW _,ba.1,bd.1⟩
 case round=>
  as_aux_lemma=>
  obtain⟨q,acc,be,bf,bg,c,M,aM,aR,a0⟩:=hrel;obtain⟨J,bh⟩:∃J:ax,J=wr:=⟨_,rfl⟩;subst bh;have g:=ag (iJ M (iJ aM (iJ aR a0)));have K:=ag (iJ bf (iJ bg (iJ be aE.1)));have i:=iK M 0 (.string s);have d:=iK M 1 (.int .i64 q);have bw:=aE.1;have l:=ag λ(Z:ax) (bi:aQ J.heap.size J Z)=>FQ (M.grow bi)
  clear M aM aR a0;by_cases u:q<s.size
  ·rw[dO u]at c
   have hn:lI s q=s[q].toNat:=(by unfold lI;rw[dif_pos u]);rw[hn]at l;have N:=ag u;have bx:(q:Int)<(s.size:Int):=iE;have ab:decide ((q:Int)≥(s.size:Int))=ay:=(by simpa using u);have ac:decide ((s.size:Int)<=(q:Int))=ay:=(by simpa using u);have bj:decide (s.size<=q)=ay:=(by simpa using u);generalize hx:s[q]=x at c l;by_cases O:x=34
   ·subst O
    rw[Yw]at c;have y:=ag c;have a1:((q:Int)+1)=((q+1:Nat):Int):=iE;have H:=ag a1;clear c hx a1
    as_aux_lemma=>
    go_upto_region 3 with fail
    refine Mix.mM (aF:=?_) iF iF iF iF iF ?_ ?_;rotate_left 1
    ·intro ρ a
     have d0:=λz:iR.Grow ρ=>iU (a.trans (z.h.mono a.size)) i
     have ad:=λz:iR.Grow ρ=>iU (a.trans (z.h.mono a.size)) d
     have P:=ag λz:iR.Grow ρ=>l.1 z.w (a.trans (z.h.mono a.size))
     repeat(go_big_quiet_step((go_at_call 82;exact iR.Grow.calls ((P.1 _).mono λe w' h=>⟨h.1,h.2.below _⟩))))
     refine bT ?_;exact rfl
    intro A D;have f:=ag D;clear D;have m:=ag (g.1.1.grow f.1);have L:=ag (tN g.1.2.2.1 λk _ n=>f.1.block k n);have d:=iU f.1 d;have ai:∀o,A.frozen? ⟨pb,o,ae⟩=ay:=λo=>aB m.1 o
    have bk:PLift (bn 51 5 b.heap.size b.heap.size (byteCells acc) (A.setCell ⟨pb,1,ae⟩ (.int .i64 ((q:Int)+1)))):=⟨tN L.1 λk n _=>bz _ _ _ _ (λe=>by have:=G;simp only at e;omega)⟩;have bl:PLift (b.heap.size<=(A.setCell ⟨pb,1,ae⟩ (.int .i64 ((q:Int)+1))).heap.size):=⟨by simp only[aA,aI];exact aJ g.1.2.2.2 f.1.size⟩
    as_aux_lemma=>
    go_wp2_with(go_at_call 19;refine(Tryz.Builder_String_any _ _ _ _ bk.1 bl.1).mono ?_;rintro e bA ⟨rfl,a2⟩;have a3:=ag a2;clear a2)
    refine aT (v:=.string ⟨acc.toArray⟩) (by simp only[results,Tryz.results83];go_simp) rfl ?_;rw[<-y.1];have bm:jw (A.setCell ⟨pb,1,ae⟩ (.int .i64 ((q:Int)+1))) pb s (q+1) nv:=m.1.moved H.1 (Same.refl _);have bo:PS pb b (A.setCell ⟨pb,1,ae⟩ (.int .i64 ((q:Int)+1))):=(g.1.2.1.trans (PK.below f.1)).trans (PK.moved m.1 (Same.refl _));exact⟨⟨rfl,bm.FP G a3.1⟩,aa.1.trans (bo.Au a3.1)⟩
   ·have a4:((x.toNat:Int)!=34)=az:=by
     rw[bne_iff_ne];intro e;exact O (dE.1 iI)
    as_aux_lemma=>
    go_upto_region 3 with fail
    refine Mix.mM (aF:=?_) iF iF iF iF iF ?_ ?_;rotate_left 1
    ·intro ρ a
     have d0:=λz:iR.Grow ρ=>iU (a.trans (z.h.mono a.size)) i
     have ad:=λz:iR.Grow ρ=>iU (a.trans (z.h.mono a.size)) d
     have P:=ag λz:iR.Grow ρ=>l.1 z.w (a.trans (z.h.mono a.size))
     repeat(go_big_quiet_step((go_at_call 82;exact iR.Grow.calls ((P.1 _).mono λe w' h=>⟨h.1,h.2.below _⟩))))
     refine bT ?_;exact rfl
    intro A D;have f:=ag D;clear D;have m:=ag (g.1.1.grow f.1);have L:=ag (tN g.1.2.2.1 λk _ n=>f.1.block k n);have I:=ag (l.1 A f.1);by_cases ak:x=92
    ·subst ak
     clear hx O a4 l;have a5:PLift (((q:Int)+1)=((q+1:Nat):Int)):=⟨iE⟩
     as_aux_lemma=>
     go_upto_region 5 with(go_at_call 82;refine(I.1).mono ?_;rintro e w3 ⟨rfl,E⟩;have j:=ag E;clear E)
     have Q:=m.1.same j.1;have d:=iK Q 1 (.int .i64 q);have ai:∀o,w3.frozen? ⟨pb,o,ae⟩=ay:=λo=>aB Q o
     have p:PLift (jw (w3.setCell ⟨pb,1,ae⟩ (.int .i64 ((q:Int)+1))) pb s (q+1) nv):=⟨Q.moved a5.1 (Same.refl _)⟩;have S:PLift (PS pb b (w3.setCell ⟨pb,1,ae⟩ (.int .i64 ((q:Int)+1)))):=⟨((g.1.2.1.trans (PK.below f.1)).trans (PK.same j.1)).trans (PK.moved Q (Same.refl _))⟩;have al:PLift (bn 51 5 b.heap.size b.heap.size (byteCells acc) (w3.setCell ⟨pb,1,ae⟩ (.int .i64 ((q:Int)+1)))):=⟨tN (tN (Y:=w3) L.1 λk _ _=>by rw[j.1.heap]) λk n _=>bz _ _ _ _ (λe=>by have:=G;simp only at e;omega)⟩;have am:PLift (b.heap.size<=(w3.setCell ⟨pb,1,ae⟩ (.int .i64 ((q:Int)+1))).heap.size):=⟨by simp only[aA,aI];rw[j.1.heap];exact aJ g.1.2.2.2 f.1.size⟩;clear Q m L I
     go_upto_region 6 with fail
     obtain⟨an,a6⟩:=iC (w3.setCell ⟨pb,1,ae⟩ (.int .i64 ((q:Int)+1)));rw[a6]at p S al am⊢;clear a6 d ai ab ac bj i;have i:=iK p.1 0 (.string s);have d:an.cell? ⟨pb,1,ae⟩=af (.int .i64 ((q:Int)+1)):=(by rw[ah p.1 1];show af (bC .i64 ((q+1:Nat):Int))=_;rw[a5.1]);by_cases ao:q+1<s.size
     ·have bB:((q:Int)+1)<(s.size:Int):=iE
      have F:¬(s.size:Int)<=((q:Int)+1):=iE;have ab:decide (((q:Int)+1)≥(s.size:Int))=ay:=iw F;have ac:decide ((s.size:Int)<=((q:Int)+1))=ay:=iw F;have bE:0<=((q:Int)+1):=iE;have bL:((q:Int)+1).toNat=q+1:=iE;rw[dO ao,Yy]at c;obtain⟨x,a7⟩:∃x:UInt8,s[q+1]'ao=x:=⟨_,rfl⟩
      rw[a7]at c;have y:=ag c;have N:=ag ao;have H:PLift ((q:Int)+1+1=((q+1+1:Nat):Int)):=⟨iE⟩;clear c
      go_quiet (fail)
      as_aux_lemma=>
      go_upto_region 8 with fail
      refine Mix.Lt (aF:=?z0) 9 iF rfl iF iF iF iF iF iF rfl rfl ?z1 ?z2
      case z1=>
       intro ρ a;replace a:=Dw a;have d0:=λz:iR.Grow ρ=>iU (a.trans (z.h.mono a.size)) i
       have ad:=λz:iR.Grow ρ=>iU (a.trans (z.h.mono a.size)) d
       dsimp only[List.take]
       repeat(go_big_quiet_step(fail))
       apply bT;exact rfl
      case z2=>
       intro W T;have B:=ag (Dw T);clear T;have ap:=ag (p.1.grow B.1);have aq:=ag (tN al.1 λk _ n=>B.1.block k n);have U:=ag (aJ am.1 B.1.size);have ar:=ag (S.1.trans (PK.below B.1));refine⟨92,#[.pointer (af ⟨b.heap.size,0,ae⟩),.int .u8 x.toNat],?_,?_⟩
       ·go_simp<;>exact enters_of dM iF rfl _ _
       refine(qR b.heap.size b.heap.size acc x W aq.1 (by have:=K.1;omega) U.1).mono ?_;rintro e V ⟨rfl,X,C,-⟩;refine .inl ⟨_,rfl,?_⟩;have r:=ag (ap.1.FP G C);have av:=ag X;have aw:=ag (aJ U.1 C.size);have aD:=ag (ar.1.Au C);clear X C i d;have d:=iK r.1 1 (.int .i64 ((q:Int)+1));have ai:∀o,V.frozen? ⟨pb,o,ae⟩=ay:=λo=>aB r.1 o
       as_aux_lemma=>
       go_wp2;go_roundw
       case rel=>refine⟨q+1+1,acc++[x],by have:=N.1;omega,by have:=K.1;simp;omega,by have:=K.1;omega,y.1,r.1.moved H.1 (Same.refl _),aD.1.trans (PK.moved r.1 (Same.refl _)),tN av.1 λk n _=>bz _ _ _ _ (λe=>by have:=G;simp only at e;omega),by simp only[aA,aI];exact aw.1⟩
       case measure=>rw[pos_at (r.1.moved H.1 (Same.refl _)),pos_at g.1.1];have:=N.1;omega
     ·have F:(s.size:Int)<=((q:Int)+1):=iE
      have ab:decide (((q:Int)+1)≥(s.size:Int))=az:=iq F;have ac:decide ((s.size:Int)<=((q:Int)+1))=az:=iq F;rw[drop_end ao,Yx]at c;have y:=ag c;clear c
      go_quiet (fail)
      as_aux_lemma=>
      go_wp2;refine⟨rfl,?_⟩;rw[<-y.1];exact⟨rfl,aa.1.trans (S.1.trans (PK.same ((Same.refl _).drewN _)))⟩
    ·rw[Yz O ak]at c
     have bN:((x.toNat:Int)==92)=ay:=by rw[iy];intro e;exact ak (dE.1 iI)
     have y:=ag c;have a7:s[q]'u=x:=hx
     have H:PLift ((q:Int)+1=((q+1:Nat):Int)):=⟨iE⟩;clear c hx O ak a4 l
     as_aux_lemma=>
     go_upto_region 6 with(go_at_call 82;refine(I.1).mono ?_;rintro e w3 ⟨rfl,E⟩;have j:=ag E;clear E)
     have p:=ag (m.1.same j.1);have al:=ag (tN (Y:=w3) L.1 λk _ _=>by rw[j.1.heap]);have am:=ag (show b.heap.size<=w3.heap.size by rw[j.1.heap];exact aJ g.1.2.2.2 f.1.size);have S:=ag ((g.1.2.1.trans (PK.below f.1)).trans (PK.same j.1));clear i d m L I;have i:=iK p.1 0 (.string s);have d:=iK p.1 1 (.int .i64 q)
     go_quiet (fail)
     as_aux_lemma=>
     go_upto_region 8 with fail
     refine Mix.Lt (aF:=?z3) 9 iF rfl iF iF iF iF iF iF rfl rfl ?z4 ?z5
     case z4=>
      intro ρ a;replace a:=Dw a;have d0:=λz:iR.Grow ρ=>iU (a.trans (z.h.mono a.size)) i
      have ad:=λz:iR.Grow ρ=>iU (a.trans (z.h.mono a.size)) d
      dsimp only[List.take]
      repeat(go_big_quiet_step(fail))
      apply bT;exact rfl
     case z5=>
      intro W T;have B:=ag (Dw T);clear T;have ap:=ag (p.1.grow B.1);have aq:=ag (tN al.1 λk _ n=>B.1.block k n);have U:=ag (aJ am.1 B.1.size);have ar:=ag (S.1.trans (PK.below B.1));refine⟨92,#[.pointer (af ⟨b.heap.size,0,ae⟩),.int .u8 x.toNat],?_,?_⟩
      ·go_simp<;>exact enters_of dM iF rfl _ _
      refine(qR b.heap.size b.heap.size acc x W aq.1 (by have:=K.1;omega) U.1).mono ?_;rintro e V ⟨rfl,X,C,-⟩;refine .inl ⟨_,rfl,?_⟩;have r:=ag (ap.1.FP G C);have av:=ag X;have aw:=ag (aJ U.1 C.size);have aD:=ag (ar.1.Au C);clear X C i d;have d:=iK r.1 1 (.int .i64 q);have ai:∀o,V.frozen? ⟨pb,o,ae⟩=ay:=λo=>aB r.1 o
      as_aux_lemma=>
      go_wp2;go_roundw
      case rel=>refine⟨q+1,acc++[x],by have:=N.1;omega,by have:=K.1;simp;omega,by have:=K.1;omega,y.1,r.1.moved H.1 (Same.refl _),aD.1.trans (PK.moved r.1 (Same.refl _)),tN av.1 λk n _=>bz _ _ _ _ (λe=>by have:=G;simp only at e;omega),by simp only[aA,aI];exact aw.1⟩
      case measure=>rw[pos_at (r.1.moved H.1 (Same.refl _)),pos_at g.1.1];have:=N.1;omega
  ·have bt:q=s.size:=iE
   have hn:lI s q=0:=(by unfold lI;rw[dif_neg u]);rw[hn]at l;rw[drop_end u,Yv]at c;have y:=ag c;have F:(s.size:Int)<=(q:Int):=iE;have ab:decide ((q:Int)≥(s.size:Int))=az:=iq F;have ac:decide ((s.size:Int)<=(q:Int))=az:=iq F;clear c bt u
   as_aux_lemma=>
   go_upto_region 3 with fail
   refine Mix.mM (aF:=?_) iF iF iF iF iF ?_ ?_;rotate_left 1
   ·intro ρ a
    have d0:=λz:iR.Grow ρ=>iU (a.trans (z.h.mono a.size)) i
    have ad:=λz:iR.Grow ρ=>iU (a.trans (z.h.mono a.size)) d
    have P:=ag λz:iR.Grow ρ=>l.1 z.w (a.trans (z.h.mono a.size))
    repeat(go_big_quiet_step((go_at_call 82;exact iR.Grow.calls ((P.1 _).mono λe w' h=>⟨h.1,h.2.below _⟩))))
    refine bT ?_;exact rfl
   intro A D;have f:=ag D;clear D;have m:=ag (g.1.1.grow f.1);have I:=ag (l.1 A f.1);have bv:=ag (g.1.2.1.trans (PK.below f.1));clear l
   as_aux_lemma=>
   go_upto_region 6 with(go_at_call 82;refine(I.1).mono ?_;rintro e w3 ⟨rfl,E⟩;have j:=ag E;clear E)
   have p:=ag (m.1.same j.1);clear i d m I;have i:=iK p.1 0 (.string s);have d:=iK p.1 1 (.int .i64 q)
   go_quiet (fail)
   as_aux_lemma=>
   go_wp2;refine⟨rfl,?_⟩;rw[<-y.1];exact⟨rfl,aa.1.trans (bv.1.trans (PK.same (j.1.drewN _)))⟩
end
theorem yY:(Tryz.prog.info? 150).map (·.size)=af 5:=iF
theorem Dx {w:ax}{g t:Nat}{a b c d e:aj}(h:w.heap[g]?=af (.cells #[a,b,c,d,e] t))(x y z u v:aj):(((((w.setCell ⟨g,0,ae⟩ x).setCell ⟨g,1,ae⟩ y).setCell ⟨g,2,ae⟩ z).setCell ⟨g,3,ae⟩ u).setCell ⟨g,4,ae⟩ v).heap[g]?=af (.cells #[x,y,z,u,v] t):=by simp[aA,aC,h]
theorem FU {w w0:ax}{g B:Nat}(b:aQ B w0 w)(a:B<=g)(x y z u v:aj):aQ B w0 (((((w.setCell ⟨g,0,ae⟩ x).setCell ⟨g,1,ae⟩ y).setCell ⟨g,2,ae⟩ z).setCell ⟨g,3,ae⟩ u).setCell ⟨g,4,ae⟩ v):=
 ((((b.setCell (p:=⟨g,0,ae⟩) a x).setCell (p:=⟨g,1,ae⟩) a y).setCell (p:=⟨g,2,ae⟩) a z).setCell (p:=⟨g,3,ae⟩) a u).setCell (p:=⟨g,4,ae⟩) a v
def YB (n:Nd):aj:=.agg #[.int .i64 n.kind,.string n.text,.bool n.ord,.slice ae 0 0,.slice ae 0 0]
theorem YC (w:List UInt8)(a b:UInt8):w.any (λc=>c==a||c==b)=decide (0<=bI w [a,b]):=by
 induction w with
 |nil=>rfl
 |cons c w d=>
  rw[List.any_cons,d,bI];have h:List.contains [a,b] c=(c==a||c==b):=by simp;rfl
  rw[h];cases hc:(c==a||c==b)with
  |true=>simp
  |false=>
   simp only[Bool.false_or,dm,if_false];have:=Lib.indexAny_ge [a,b] w;by_cases he:bI w [a,b]= -1
   ·rw[he];rfl
   ·have e:(bI w [a,b]== -1)=ay:=by rw[iy];exact he
    rw[e];simp only[dm,if_false];rw[decide_eq_decide];omega
theorem YD (w:List UInt8)(a:UInt8):w.any (λc=>c==a)=decide (0<=di w a):=by
 rw[<-Lib.contains_iff_indexByte,List.contains_eq_any_beq]
 congr 1
 funext c
 exact Bool.beq_comm
theorem YE (s:ByteArray)(hs:s.size<=65536)(w:ax):
  dP aH 88 #[.string s] w λe w'=>e=.returned (YB (sZ s.data.toList))/\aQ w.heap.size w w':=by
 have C:=ag (show sZ s.data.toList=_ from rfl);obtain⟨R,hR⟩:=iC (sZ s.data.toList);rw[hR];unfold sZ at hR;have D:(⟨s.data.toList.toArray⟩:ByteArray)=s:=iH
 rw[D,YC,YD]at hR;have c:=ag hR;clear hR C;have i:=ag λW:ax=>Yk s ⟨#[112,110]⟩ W iG iG iE iG
 have p:=ag λW:ax=>Tryz.strings_Contains_one s 101 W
 have e1:s.toList=s.data.toList:=Lib.toList_data s;have g:=ag (iW w (.cells #[.int .i64 0,.string ⟨#[]⟩,.bool ay,.slice ae 0 0,.slice ae 0 0] 150));have n:=ag (aX w (.cells #[.int .i64 0,.string ⟨#[]⟩,.bool ay,.slice ae 0 0,.slice ae 0 0] 150));by_cases j:s.data.toList=[110,117,108,108]
 ·have b1:(s.toList==[110,117,108,108])=az:=by rw[e1,j];rfl
  have d:=ag (c.1.symm.trans (gY j))
  as_aux_lemma=>
  go_enter bG,bD;go_wp2;refine aT (aU rfl _ _ w.heap.size _ _ _ _ rfl n.1 aS rfl yY) rfl ?_;exact⟨by rw[d.1];rfl,g.1⟩
 have c:=ag ((gZ j).symm.trans c.1);have b1:(s.toList==[110,117,108,108])=ay:=by rw[e1,iy];exact j
 by_cases k:s.data.toList=[116,114,117,101]
 ·have b2:(s.toList==[116,114,117,101])=az:=by rw[e1,k];rfl
  have d:=ag (c.1.symm.trans (gY (.inl k)))
  as_aux_lemma=>
  go_enter bG,bD;go_wp2;refine aT (aU rfl _ _ w.heap.size _ _ _ _ rfl (aX w _) aS rfl yY) rfl ?_;exact⟨by rw[d.1];rfl,iW w _⟩
 have b2:(s.toList==[116,114,117,101])=ay:=by rw[e1,iy];exact k
 by_cases l:s.data.toList=[102,97,108,115,101]
 ·have b3:(s.toList==[102,97,108,115,101])=az:=by rw[e1,l];rfl
  have d:=ag (c.1.symm.trans (gY (.inr l)))
  as_aux_lemma=>
  go_enter bG,bD;go_wp2;refine aT (aU rfl _ _ w.heap.size _ _ _ _ rfl (aX w _) aS rfl yY) rfl ?_;exact⟨by rw[d.1];rfl,iW w _⟩
 have b3:(s.toList==[102,97,108,115,101])=ay:=by rw[e1,iy];exact l
 have c:=ag ((gZ (λh=>h.elim k l)).symm.trans c.1);have E:(⟨#[112,110]⟩:ByteArray).data.toList=[112,110]:=rfl;rw[E]at i;obtain⟨q,t⟩:=iC (decide (0<=bI s.data.toList [112,110]));rw[t]at i c;obtain⟨r,u⟩:=iC (decide (0<=di s.data.toList 101));rw[u]at p c;clear t u j k l e1;cases q with
 |true=>
  have d:=ag (c.1.symm.trans (gY rfl))
  as_aux_lemma=>
  go_enter bG,bD
  go_wp2_with(go_at_call 99;refine(i.1 _).mono ?_;rintro e b ⟨rfl,f⟩;have a:=ag (Mix.lu f n.1);have m:=ag (g.1.trans (f.mono g.1.size));have v:∀o,b.frozen? ⟨w.heap.size,o,ae⟩=ay:=λo=>aB a.1 o;have x:=iK a.1 0 (.int .i64 0);have y:=iK a.1 1 (.string ⟨#[]⟩);have z:=iK a.1 2 (.bool ay);have A:=iK a.1 3 (.slice ae 0 0);have B:=iK a.1 4 (.slice ae 0 0);clear f)
  refine aT (aU rfl _ _ w.heap.size _ _ _ _ rfl (Dx a.1 _ _ _ _ _) aS rfl yY) rfl ?_;exact⟨by rw[d.1];rfl,FU m.1 (aW _) _ _ _ _ _⟩
 |false=>
  have c:=ag ((gZ iG).symm.trans c.1);cases r with
  |true=>
   have d:=ag (c.1.symm.trans (gY rfl))
   as_aux_lemma=>
   go_enter bG,bD
   go_wp2_with(first
    |(go_at_call 99;refine(i.1 _).mono ?_;rintro e b ⟨rfl,f⟩;have a:=ag (Mix.lu f n.1);have m:=ag (g.1.trans (f.mono g.1.size));have v:∀o,b.frozen? ⟨w.heap.size,o,ae⟩=ay:=λo=>aB a.1 o;have x:=iK a.1 0 (.int .i64 0);have y:=iK a.1 1 (.string ⟨#[]⟩);have z:=iK a.1 2 (.bool ay);have A:=iK a.1 3 (.slice ae 0 0);have B:=iK a.1 4 (.slice ae 0 0);clear f)
    |(go_at_call 100;refine(p.1 _).mono ?_;rintro e F ⟨rfl,rfl⟩))
   refine aT (aU rfl _ _ w.heap.size _ _ _ _ rfl (Dx a.1 _ _ _ _ _) aS rfl yY) rfl ?_;exact⟨by rw[d.1];rfl,FU m.1 (aW _) _ _ _ _ _⟩
  |false=>
   have d:=ag (c.1.symm.trans (gZ iG))
   as_aux_lemma=>
   go_enter bG,bD
   go_wp2_with(first
    |(go_at_call 99;refine(i.1 _).mono ?_;rintro e b ⟨rfl,f⟩;have a:=ag (Mix.lu f n.1);have m:=ag (g.1.trans (f.mono g.1.size));have v:∀o,b.frozen? ⟨w.heap.size,o,ae⟩=ay:=λo=>aB a.1 o;have x:=iK a.1 0 (.int .i64 0);have y:=iK a.1 1 (.string ⟨#[]⟩);have z:=iK a.1 2 (.bool ay);have A:=iK a.1 3 (.slice ae 0 0);have B:=iK a.1 4 (.slice ae 0 0);clear f)
    |(go_at_call 100;refine(p.1 _).mono ?_;rintro e F ⟨rfl,rfl⟩))
   refine aT (aU rfl _ _ w.heap.size _ _ _ _ rfl (Dx a.1 _ _ _ _ _) aS rfl yY) rfl ?_;exact⟨by rw[d.1];rfl,FU m.1 (aW _) _ _ _ _ _⟩
theorem YL:(Tryz.prog.info? 150).map (λi=>(i.zero,i.size,i.bytes))=af (af (.agg #[.int .i64 0,.string ⟨#[]⟩,.bool ay,.slice ae 0 0,.slice ae 0 0]),5,80):=iF
theorem YM:(Value.agg #[.int .i64 0,.string ⟨#[]⟩,.bool ay,.slice ae 0 0,.slice ae 0 0]).cells.size=5:=iF
theorem YN:(Tryz.prog.info? 3).map (λi=>(i.zero,i.size,i.bytes))=af (af (.int .i64 0),1,8):=iF
def ji (ex:Nat->Prop)(w:ax)(v:aj)(l:List Int):Prop:=
 ∃a c,v=.slice a l.length c/\l.length<=100000000/\(l=[]\/∃b d,a=af ⟨b,0,ae⟩/\¬ex b/\w.heap[b]?=af (.cells d 3)/\∀(j:Nat) (x:Int),l[j]?=af x->d[j]?=af (.int .i64 x))
theorem ji.nil (ex:Nat->Prop)(w:ax):ji ex w (.slice ae 0 0) []:=⟨ae,0,rfl,cu _,.inl rfl⟩
theorem ji.keep {ex wK:Nat->Prop}{X Y:ax}{v:aj}{l:List Int}(h:ji ex X v l)(k:∀b d,¬ex b->X.heap[b]?=af (.cells d 3)->¬wK b/\Y.heap[b]?=af (.cells d 3)):ji wK Y v l:=by
 obtain⟨a,c,f,g,e⟩:=h;refine⟨a,c,f,g,?_⟩;rcases e with e|⟨b,d,i,j,m,n⟩
 ·exact .inl e
 ·obtain⟨o,p⟩:=k b d j m
  exact .inr ⟨b,d,i,o,p,n⟩
theorem ji.LM {ex:Nat->Prop}{w:ax}{v:aj}{l:List Int}(h:ji ex w v l):rZ w v l:=by
 obtain⟨a,c,e,k,d⟩:=h;refine⟨a,c,e,iE,?_⟩;rcases d with d|⟨b,m,f,n,g,i⟩
 ·exact .inl d
 ·refine .inr ⟨b,0,f,λj x hx=>?_⟩
  rw[dJ];exact(ah g j).trans (i j x hx)
theorem ji.LP {ex:Nat->Prop}{w:ax}{B:Nat}{v:aj}{l:List Int}(h:w.ownsRow B 3 1 v l.length (l.map (bC .i64)))(d:l.length<=100000000)(hex:∀b,v.ownBlock=af b->¬ex b):ji ex w v l:=by
 rcases h.2 with⟨rfl,e⟩|⟨g,cap,a,rfl,k,f,m,n,o,i⟩
 ·have:l=[]:=bK e
  subst this;exact ji.nil ex w
 ·refine⟨_,_,rfl,d,.inr ⟨g,a,rfl,hex g rfl,f,λj x hx=>?_⟩⟩
  have p:j<l.length:=(bu.1 hx).1;have c:(a.toList.take (l.length*1))[j]?=af (.int .i64 x):=by rw[i,List.getElem?_map,hx];rfl
  rw[bY iE]at c;simpa using c
def LQ (ex:Nat->Prop)(w:ax)(xs:List aj)(i:Nat)(n:Nd):Prop:=
 ∃a b,xs[i*5]?=af (.int .i64 n.kind)/\xs[i*5+1]?=af (.string n.text)/\xs[i*5+2]?=af (.bool n.ord)/\xs[i*5+3]?=af a/\xs[i*5+4]?=af b/\ji ex w a n.keys/\ji ex w b n.items
def rX (ex:Nat->Prop)(w:ax)(xs:List aj)(N:List Nd):Prop:=∀i n,N[i]?=af n->LQ ex w xs i n
theorem rX.keep {ex wK:Nat->Prop}{X Y:ax}{xs:List aj}{N:List Nd}(h:rX ex X xs N)(k:∀b a,¬ex b->X.heap[b]?=af (.cells a 3)->¬wK b/\Y.heap[b]?=af (.cells a 3)):rX wK Y xs N:=by intro i n hi;obtain⟨c,d,e,f,g,j,l,m,o⟩:=h i n hi;exact⟨c,d,e,f,g,j,l,m.keep k,o.keep k⟩
theorem rX.snoc {ex:Nat->Prop}{w:ax}{xs e:List aj}{N:List Nd}{n:Nd}(h:rX ex w xs N)(hx:xs.length=N.length*5)(hc:LQ ex w e 0 n):rX ex w (xs++e) (N++[n]):=by
 intro i m hi;by_cases o:i<N.length
 ·rw[bV o]at hi
  obtain⟨a,b,f,g,j,k,l,c,d⟩:=h i m hi;refine⟨a,b,?_,?_,?_,?_,?_,c,d⟩
  all_goals rw[bV iE];assumption
 ·have p:i<(N++[n]).length:=(bu.1 hi).1
  rw[bF,aY]at p;obtain rfl:i=N.length:=iE
  have:m=n:=by simpa using hi.symm
  subst this;obtain⟨a,b,f,g,j,k,l,c,d⟩:=hc;refine⟨a,b,?_,?_,?_,?_,?_,c,d⟩
  ·rw[aK iE,show N.length*5 - xs.length=0*5 by omega];exact f
  ·rw[aK iE,show N.length*5+1 - xs.length=0*5+1 by omega];exact g
  ·rw[aK iE,show N.length*5+2 - xs.length=0*5+2 by omega];exact j
  ·rw[aK iE,show N.length*5+3 - xs.length=0*5+3 by omega];exact k
  ·rw[aK iE,show N.length*5+4 - xs.length=0*5+4 by omega];exact l
structure PV (ex:Nat->Prop)(B pb:Nat)(s:ByteArray)(p:Nat)(N:List Nd)(nv:aj)(w:ax):Prop where
 at_:jw w pb s p nv
 lo:B<=pb
 row:∃xs,w.ownsRow B 150 5 nv N.length xs/\rX ex w xs N
theorem PS.pk {pb:Nat}{X Y:ax}(h:PS pb X Y)(nv:aj):PK pb nv nv X Y:=⟨h.os,h.tape,h.output,h.size,λk a b _=>h.block k a b (λe=>by cases e),λ_ h=>.inl h⟩
theorem vk {w:ax}{B e size n:Nat}{v:aj}{xs:List aj}(h:w.ownsRow B e size v n xs){g:Nat}(b:v.ownBlock=af g):∃a,w.heap[g]?=af (.cells a e):=by
 rcases h.2 with⟨rfl,_⟩|⟨g',cap,a,rfl,_,c,_⟩
 ·cases b
 ·cases Option.some.inj (show af g'=af g from b)
  exact⟨a,c⟩
theorem qW {w w':ax}{B e size n:Nat}{v:aj}{xs:List aj}(h:w.ownsRow B e size v n xs)(k:∀g a,w.heap[g]?=af (.cells a e)->v.ownBlock=af g->w'.heap[g]?=af (.cells a e)):w'.ownsRow B e size v n xs:=by
 refine⟨h.1,?_⟩;rcases h.2 with hn|⟨g,cap,a,hv,b,c,d⟩
 ·exact .inl hn
 ·exact .inr ⟨g,cap,a,hv,b,k g a c (by rw[hv];rfl),d⟩
theorem YO (xs:List aj)(o:Nat)(a b c d e:aj)(h:o+4<xs.length):(((((xs.set o a).set (o+1) b).set (o+2) c).set (o+3) d).set (o+4) e)[o]?=af a/\(((((xs.set o a).set (o+1) b).set (o+2) c).set (o+3) d).set (o+4) e)[o+1]?=af b/\
  (((((xs.set o a).set (o+1) b).set (o+2) c).set (o+3) d).set (o+4) e)[o+2]?=af c/\(((((xs.set o a).set (o+1) b).set (o+2) c).set (o+3) d).set (o+4) e)[o+3]?=af d/\(((((xs.set o a).set (o+1) b).set (o+2) c).set (o+3) d).set (o+4) e)[o+4]?=af e:=by
 have g:∀(l:List aj) (i j:Nat) (x:aj),i≠j->(l.set i x)[j]?=l[j]?:=λl i j x f=>aO f
 have s:∀(l:List aj) (i:Nat) (x:aj),i<l.length->(l.set i x)[i]?=af x:=λl i x k=>by rw[dA,gY rfl,gY k]
 refine⟨?_,?_,?_,?_,?_⟩
 ·rw[g _ _ _ _ iE,g _ _ _ _ iE,g _ _ _ _ iE,g _ _ _ _ iE,s _ _ _ iE]
 ·rw[g _ _ _ _ iE,g _ _ _ _ iE,g _ _ _ _ iE,s _ _ _ (by simp only[aV];omega)]
 ·rw[g _ _ _ _ iE,g _ _ _ _ iE,s _ _ _ (by simp only[aV];omega)]
 ·rw[g _ _ _ _ iE,s _ _ _ (by simp only[aV];omega)]
 ·rw[s _ _ _ (by simp only[aV];omega)]
section
variable {ex wK:Nat->Prop} {B pb:Nat} {s:ByteArray} {p q:Nat} {N:List Nd} {nv jh:aj} {X Y w:ax}
theorem kR {b c a d:Nat}{f g:Array aj}{h i:Nat×Nat}(j:w.heap[b]?=af (.cells f a h))(e:w.heap[c]?=af (.cells g d i))(k:a≠d):b≠c:=by rintro rfl;rw[j]at e;cases e;exact k rfl
theorem PV.nodes (h:PV ex B pb s p N nv w)(y:N.length<=4096):jJ w nv N:=by
 obtain⟨xs,a,b⟩:=h.row;rcases a.2 with⟨rfl,c⟩|⟨g,cap,z,rfl,A,d,C,D,E,e⟩
 ·have:N=[]:=bK c
  subst this;exact⟨ae,0,rfl,cu _,.inl rfl⟩
 ·refine⟨_,_,rfl,iE,.inr ⟨g,0,rfl,λi n hi=>?_⟩⟩
  have F:i<N.length:=(bu.1 hi).1;obtain⟨f,k,l,m,o,q,r,t,u⟩:=b i n hi
  have hc:∀j v,j<N.length*5->xs[j]?=af v->w.cell? ⟨g,j,ae⟩=af v:=λj v x hx=>by rw[<-e,bY x]at hx;exact(ah d j).trans (by simpa using hx)
  refine⟨f,k,?_,?_,?_,?_,?_,t.LM,u.LM⟩
  all_goals rw[dJ]
  ·exact hc _ _ iE l
  ·exact hc _ _ iE m
  ·exact hc _ _ iE o
  ·exact hc _ _ iE q
  ·exact hc _ _ iE r
theorem PV.ne (h:PV ex B pb s p N nv w):nv.ownBlock≠af pb:=λe=>by obtain⟨xs,a,-⟩:=h.row;obtain⟨b,hc⟩:=vk a e;exact kR hc h.at_ iG rfl
theorem PV.above (h:PV ex B pb s p N nv w):∀g,nv.ownBlock=af g->B<=g:=λg a=>by obtain⟨xs,b,-⟩:=h.row;exact(b.lt g a).1
theorem PV.ps (h:PV ex B pb s p N nv X)(k:PS pb X Y)(c:jw Y pb s q nv):PV ex B pb s q N nv Y:=by
 obtain⟨xs,d,f⟩:=h.row;refine⟨c,h.lo,xs,qW d λg i a hv=>?_,f.keep λb i j hc=>⟨j,?_⟩⟩
 ·rw[k.block g (block_lt a) (λe=>h.ne (by rw[<-e];exact hv)) (λe=>by cases e)]
  exact a
 ·rw[k.block b (block_lt hc) (kR hc h.at_ iG) (λe=>by cases e)]
  exact hc
theorem PV.grow (h:PV ex B pb s p N nv X)(k:aQ X.heap.size X Y):PV ex B pb s p N nv Y:=h.ps (PK.below k) (h.at_.grow k)
theorem PV.weak (h:PV ex B pb s p N nv X)(k:∀b a,¬ex b->X.heap[b]?=af (.cells a 3)->¬wK b):PV wK B pb s p N nv X:=by obtain⟨xs,c,d⟩:=h.row;exact⟨h.at_,h.lo,xs,c,d.keep λb a e hc=>⟨k b a e hc,hc⟩⟩
theorem PK.base {a b:aj}(h:PK pb a b X Y)(d:B<=X.heap.size)(f:B<=pb)(c:∀g,a.ownBlock=af g->B<=g):aQ B X Y:=
 ⟨h.os,h.tape,h.output,h.size,λk i=>h.block k iE iE (λe=>by have:=c k e;omega)⟩
theorem PV.push {xs:List aj}(h:PV ex B pb s p N nv X)(hr:w.ownsRow B 150 5 jh (N.length+1) (xs++[.int .i64 0,.string ⟨#[]⟩,.bool ay,.slice ae 0 0,.slice ae 0 0]))(hx:X.ownsRow B 150 5 nv N.length xs)(hn:rX ex X xs N)
  (d:(X.alloc (.cells #[.int .i64 0,.string ⟨#[]⟩,.bool ay,.slice ae 0 0,.slice ae 0 0] 150)).grownBy w nv.ownBlock)
  (n:∀k,jh.ownBlock=af k->nv.ownBlock=af k\/(X.alloc (.cells #[.int .i64 0,.string ⟨#[]⟩,.bool ay,.slice ae 0 0,.slice ae 0 0] 150)).heap.size<=k):
  PV ex B pb s p (N++[jG]) jh (w.setCell ⟨pb,2,ae⟩ jh)/\PK pb nv jh X (w.setCell ⟨pb,2,ae⟩ jh)/\w.heap[pb]?=af (.cells #[.string s,.int .i64 p,nv] 136):=by
 have f:=jl X (.cells #[.int .i64 0,.string ⟨#[]⟩,.bool ay,.slice ae 0 0,.slice ae 0 0] 150)
 have i:∀b,b<X.heap.size->nv.ownBlock≠af b->w.heap[b]?=X.heap[b]?:=λb q r=>by rw[d.block b (by rw[f];omega) (λe=>r e.symm),bU X _ b q]
 have t:=block_lt h.at_;have o:w.heap[pb]?=af (.cells #[.string s,.int .i64 p,nv] 136):=by rw[i pb t h.ne];exact h.at_
 have u:jh.ownBlock≠af pb:=λe=>by
  rcases n pb e with a|a
  ·exact h.ne a
  ·rw[f]at a;omega
 have j:∀b,b≠pb->(w.setCell ⟨pb,2,ae⟩ jh).heap[b]?=w.heap[b]?:=λb l=>jm _ l
 have hi:∀(b:Nat) (c:Array aj),X.heap[b]?=af (.cells c 3)->(w.setCell ⟨pb,2,ae⟩ jh).heap[b]?=af (.cells c 3):=λb c hc=>by
  rw[j b (kR hc h.at_ iG),i b (block_lt hc) (λe=>by obtain⟨C,m⟩:=vk hx e;exact kR hc m iG rfl)]
  exact hc
 have v:jw (w.setCell ⟨pb,2,ae⟩ jh) pb s p jh:=by unfold jw;simp[aA,aC,o]
 have hR:(w.setCell ⟨pb,2,ae⟩ jh).ownsRow B 150 5 jh (N++[jG]).length (xs++[.int .i64 0,.string ⟨#[]⟩,.bool ay,.slice ae 0 0,.slice ae 0 0]):=by
  rw[bF,aY]
  exact qW hr λg c x hv=>by rw[j g (λe=>u (by rw[<-e];exact hv))];exact x
 have y:rX ex (w.setCell ⟨pb,2,ae⟩ jh) (xs++[.int .i64 0,.string ⟨#[]⟩,.bool ay,.slice ae 0 0,.slice ae 0 0]) (N++[jG]):=
  rX.snoc (hn.keep λb c l hc=>⟨l,hi b c hc⟩) hx.1 ⟨.slice ae 0 0,.slice ae 0 0,rfl,rfl,rfl,rfl,rfl,ji.nil _ _,ji.nil _ _⟩
 have hS:X.heap.size<=(w.setCell ⟨pb,2,ae⟩ jh).heap.size:=by simp only[aA,aI];have:=d.size;omega
 have hK:PK pb nv jh X (w.setCell ⟨pb,2,ae⟩ jh):=⟨d.os,d.tape,d.output,hS,λk z a m=>by rw[j k a,i k z m],λg A=>by
  rcases n g A with a|a
  ·exact .inl a
  ·rw[f]at a
   exact .inr iE⟩
 exact⟨⟨v,h.lo,_,hR,y⟩,hK,o⟩
def lT (w:ax)(g o:Nat)(a b c d e:aj):ax:=((((w.setCell ⟨g,o,ae⟩ a).setCell ⟨g,o+1,ae⟩ b).setCell ⟨g,o+2,ae⟩ c).setCell ⟨g,o+3,ae⟩ d).setCell ⟨g,o+4,ae⟩ e
theorem YP {g o T:Nat}{f:Array aj}{i:Nat×Nat}(h:w.heap[g]?=af (.cells f T i))(a b c d e:aj):(lT w g o a b c d e).heap[g]?=af (.cells (((((f.setIfInBounds o a).setIfInBounds (o+1) b).setIfInBounds (o+2) c).setIfInBounds (o+3) d).setIfInBounds (o+4) e) T i):=by unfold lT;simp[aA,aC,h]
theorem YQ {g o k:Nat}(a b c d e:aj)(h:k≠g):(lT w g o a b c d e).heap[k]?=w.heap[k]?:=by unfold lT;rw[jm _ h,jm _ h,jm _ h,jm _ h,jm _ h]
theorem YR (g o:Nat)(a b c d e:aj):(lT w g o a b c d e).heap.size=w.heap.size:=by unfold lT;simp[aA]
theorem PV.put (h:PV ex B pb s p N nv X){i:Nat}(hi:i<N.length)(n:Nd){a d:aj}(r:ji ex X a n.keys)(hv:ji ex X d n.items):
  ∃g cap,nv=.slice (af ⟨g,0,ae⟩) N.length cap/\(∀o,X.frozen? ⟨g,o,ae⟩=ay)/\(∀o,o<N.length*5->(X.cell? ⟨g,o,ae⟩).isSome=az)/\g≠pb/\
   PV ex B pb s p (N.set i n) nv (lT X g (i*5) (.int .i64 n.kind) (.string n.text) (.bool n.ord) a d)/\PK pb nv nv X (lT X g (i*5) (.int .i64 n.kind) (.string n.text) (.bool n.ord) a d):=by
 obtain⟨xs,t,x⟩:=h.row;have y:=t.1;rcases t.2 with⟨rfl,T⟩|⟨g,cap,U,rfl,z,f,u,A,v,C⟩
 ·omega
 have w:g≠pb:=kR f h.at_ iG;have hint:∀(b:Nat) (c:Array aj),X.heap[b]?=af (.cells c 3)->b≠g:=λb c hc=>kR hc f iG
 have D:=YP (o:=i*5) f (.int .i64 n.kind) (.string n.text) (.bool n.ord) a d;have hF:∀k,k≠g->(lT X g (i*5) (.int .i64 n.kind) (.string n.text) (.bool n.ord) a d).heap[k]?=X.heap[k]?:=λk r=>YQ _ _ _ _ _ r
 have hS:(lT X g (i*5) (.int .i64 n.kind) (.string n.text) (.bool n.ord) a d).heap.size=X.heap.size:=YR _ _ _ _ _ _ _;refine⟨g,cap,rfl,λo=>aB f o,λo V=>?_,w,⟨?_,h.lo,(((((xs.set (i*5) (.int .i64 n.kind)).set (i*5+1) (.string n.text)).set (i*5+2) (.bool n.ord)).set (i*5+3) a).set (i*5+4) d),?_,?_⟩,⟨rfl,rfl,rfl,by rw[hS];exact aW _,λk r W E=>hF k (λe=>E (by rw[e];rfl)),λ_ F=>.inl F⟩⟩
 ·rw[ah f o,Array.getElem?_eq_getElem (by rw[v];have:=Nat.mul_le_mul_right 5 u;omega)]
  rfl
 ·show(lT X g (i*5) (.int .i64 n.kind) (.string n.text) (.bool n.ord) a d).heap[pb]?=_
  rw[hF pb (Ne.symm w)];exact h.at_
 ·rw[aV]
  refine⟨by simp[y],.inr ⟨g,cap,_,rfl,z,D,u,A,by simp[v],?_⟩⟩;simp only[Array.toList_setIfInBounds,List.take_set,C]
 ·have G:ji ex (lT X g (i*5) (.int .i64 n.kind) (.string n.text) (.bool n.ord) a d) a n.keys:=r.keep λb c l hc=>⟨l,by rw[hF b (hint b c hc)];exact hc⟩
  have H:ji ex (lT X g (i*5) (.int .i64 n.kind) (.string n.text) (.bool n.ord) a d) d n.items:=hv.keep λb c l hc=>⟨l,by rw[hF b (hint b c hc)];exact hc⟩
  have I:rX ex (lT X g (i*5) (.int .i64 n.kind) (.string n.text) (.bool n.ord) a d) xs N:=x.keep λb c l hc=>⟨l,by rw[hF b (hint b c hc)];exact hc⟩
  intro j m q;rw[dA]at q;by_cases e:i=j
  ·subst e
   rw[gY rfl,gY hi]at q;obtain rfl:=Option.some.inj q;obtain⟨J,K,L,M,O⟩:=YO xs (i*5) (.int .i64 n.kind) (.string n.text) (.bool n.ord) a d iE;exact⟨a,d,J,K,L,M,O,G,H⟩
  ·rw[gZ e]at q
   obtain⟨P,Q,Y,Z,aa,ab,ac,R,S⟩:=I j m q;refine⟨P,Q,?_,?_,?_,?_,?_,R,S⟩
   all_goals
    rw[aO iE,aO iE,aO iE,aO iE,aO iE]
    assumption
end
def VP (ex:Nat->Prop)(B pb:Nat)(s:ByteArray)(nv:aj)(w:ax)(n0:Nat)(r:Option (Nat×List Nd))(e:Ending)(w':ax):Prop:=
 match r with
 |some (b,N')=>e=.returned (.int .i64 ((n0:Nat):Int))/\∃a,PV ex B pb s b N' a w'/\PK pb nv a w w'
 |none=>e=.panicked tK/\aQ B w w'
def ValAt (k:Nat)(s:ByteArray):Prop:=∀(ex:Nat->Prop) (B pb p:Nat) (N:List Nd) (nv:aj) (w:ax) (d:Int),(0<=d/\d+(k:Int)=33)->PV ex B pb s p N nv w->(∀b,ex b->b<w.heap.size)->jO s.data.toList.length N->N.length<=4096->p<=s.size->
 dP aH 72 #[.pointer (af ⟨pb,0,ae⟩),.int .i64 d] w (VP ex B pb s nv w N.length (jd s.data.toList k p N))
structure PI (pb nb:Nat)(nv lL:aj)(X Y:ax):Prop where
 os:Y.os=X.os
 tape:Y.tape=X.tape
 output:Y.output=X.output
 size:X.heap.size<=Y.heap.size
 block:∀k,k<X.heap.size->k≠pb->k≠nb->nv.ownBlock≠af k->Y.heap[k]?=X.heap[k]?
 own:∀g,lL.ownBlock=af g->nv.ownBlock=af g\/X.heap.size<=g
theorem PI.refl (pb nb:Nat)(nv:aj)(X:ax):PI pb nb nv nv X X:=⟨rfl,rfl,rfl,aW _,λ_ _ _ _ _=>rfl,λ_ h=>.inl h⟩
theorem PI.pk {pb nb:Nat}{n0 b c:aj}{w X Y:ax}(h:PI pb nb n0 b w X)(k:PK pb b c X Y):PI pb nb n0 c w Y where
 os:=k.os.trans h.os
 tape:=k.tape.trans h.tape
 output:=k.output.trans h.output
 size:=aJ h.size k.size
 block:=λq d a j f=>by
  rw[k.block q (aN d h.size) a (λe=>by
   rcases h.own q e with i|i
   ·exact f i
   ·omega)]
  exact h.block q d a j f
 own:=λg l=>by
  rcases k.own g l with a|a
  ·exact h.own g a
  ·exact .inr (aJ h.size a)
theorem PI.base {B pb nb:Nat}{a b:aj}{X Y:ax}(h:PI pb nb a b X Y)(d:B<=X.heap.size)(f:B<=pb)(i:B<=nb)(c:∀g,a.ownBlock=af g->B<=g):aQ B X Y:=
 ⟨h.os,h.tape,h.output,h.size,λk j=>h.block k iE iE iE (λe=>by have:=c k e;omega)⟩
def NB (nb:Nat)(kd:Int)(o:Bool)(kv iv:aj)(w:ax):Prop:=w.heap[nb]?=af (.cells #[.int .i64 kd,.string ⟨#[]⟩,.bool o,kv,iv] 150)
structure II (ex:Nat->Prop)(B pb nb:Nat)(s:ByteArray)(kd:Int)(o:Bool)(w0:ax)(je:aj)(p:Nat)(N:List Nd)(nv:aj)(ks is:List Int)(kv iv:aj)(X:ax):Prop where
 pv:PV (λb=>ex b\/kv.ownBlock=af b\/iv.ownBlock=af b) B pb s p N nv X
 box:NB nb kd o kv iv X
 kr:X.ownsRow w0.heap.size 3 1 kv ks.length (ks.map (bC .i64))
 ir:X.ownsRow w0.heap.size 3 1 iv is.length (is.map (bC .i64))
 ne:∀b,kv.ownBlock=af b->iv.ownBlock≠af b
 pi:PI pb nb je nv w0 X
 oK:nv.ownBlock≠af nb
 Dz:∀b,ex b->b<w0.heap.size
section
variable {ex:Nat->Prop} {B pb nb:Nat} {s:ByteArray} {kd:Int} {o:Bool} {w0:ax} {je:aj} {p q:Nat} {N N2:List Nd} {nv jh:aj} {ks is:List Int} {kv iv:aj} {X Y:ax}
theorem II.start (a:PV ex B pb s p N je w0)(c:NB nb kd o (.slice ae 0 0) (.slice ae 0 0) w0)(d:je.ownBlock≠af nb)(hex:∀b,ex b->b<w0.heap.size):II ex B pb nb s kd o w0 je p N je [] [] (.slice ae 0 0) (.slice ae 0 0) w0:=
 ⟨a.weak (λb _ h _=>λe=>by
  rcases e with e|e|e
  ·exact h e
  ·cases e
  ·cases e),c,dB _ _ _ _,dB _ _ _ _,(λb e=>by cases e),PI.refl _ _ _ _,d,hex⟩
theorem II.exs (h:II ex B pb nb s kd o w0 je p N nv ks is kv iv X):∀b,(ex b\/kv.ownBlock=af b\/iv.ownBlock=af b)->b<X.heap.size:=by
 intro b a;rcases a with a|a|a
 ·exact aN (h.Dz b a) h.pi.size
 ·exact(h.kr.lt b a).2
 ·exact(h.ir.lt b a).2
theorem II.val (h:II ex B pb nb s kd o w0 je p N nv ks is kv iv X)(hv:PV (λb=>ex b\/kv.ownBlock=af b\/iv.ownBlock=af b) B pb s q N2 jh Y)(d:PK pb nv jh X Y):II ex B pb nb s kd o w0 je q N2 jh ks is kv iv Y:=by
 have hint:∀(g:Nat) (c:Array aj),X.heap[g]?=af (.cells c 3)->Y.heap[g]?=af (.cells c 3):=λg c a=>by
  obtain⟨xs,f,-⟩:=h.pv.row
  rw[d.block g (block_lt a) (kR a h.pv.at_ iG) (λe=>by obtain⟨j,i⟩:=vk f e;exact kR a i iG rfl)]
  exact a
 refine⟨hv,?_,qW h.kr λg c a _=>hint g c a,qW h.ir λg c a _=>hint g c a,h.ne,h.pi.pk d,λe=>?_,h.Dz⟩
 ·unfold NB
  rw[d.block nb (block_lt h.box) (kR h.box h.pv.at_ iG) h.oK];exact h.box
 ·rcases d.own nb e with f|f
  ·exact h.oK f
  ·have:=block_lt h.box;omega
theorem II.ps (h:II ex B pb nb s kd o w0 je p N nv ks is kv iv X)(k:PS pb X Y)(a:jw Y pb s q nv):II ex B pb nb s kd o w0 je q N nv ks is kv iv Y:=h.val (h.pv.ps k a) (k.pk nv)
theorem II.grow (h:II ex B pb nb s kd o w0 je p N nv ks is kv iv X)(k:aQ X.heap.size X Y):II ex B pb nb s kd o w0 je p N nv ks is kv iv Y:=h.ps (PK.below k) (h.pv.at_.grow k)
theorem II.drewN (h:II ex B pb nb s kd o w0 je p N nv ks is kv iv X)(n:Nat):II ex B pb nb s kd o w0 je p N nv ks is kv iv (X.drewN n):=h.grow ((Same.refl X).drewN n |>.below _)
theorem II.base (h:II ex B pb nb s kd o w0 je p N nv ks is kv iv X)(a:B<=w0.heap.size)(b:B<=nb)(c:∀g,je.ownBlock=af g->B<=g):aQ B w0 X:=h.pi.base a h.pv.lo b c
structure IA (ex:Nat->Prop)(B pb nb:Nat)(s:ByteArray)(kd:Int)(o:Bool)(w0:ax)(je:aj)(p:Nat)(N:List Nd)(nv:aj)(ks is:List Int)(kv iv rv v':aj)(l:List Int)(x:Int)(Z W:ax):Prop where
 ii:II ex B pb nb s kd o w0 je p N nv ks is kv iv Z
 row:W.ownsRow w0.heap.size 3 1 v' (l.length+1) (l.map (bC .i64)++[.int .i64 x])
 grown:(Z.alloc (.cells #[.int .i64 x] 3)).grownBy W rv.ownBlock
 new:∀k,v'.ownBlock=af k->rv.ownBlock=af k\/(Z.alloc (.cells #[.int .i64 x] 3)).heap.size<=k
theorem IA.old {a v':aj}{l:List Int}{x:Int}{Z W:ax}(h:IA ex B pb nb s kd o w0 je p N nv ks is kv iv a v' l x Z W):∀b,b<Z.heap.size->a.ownBlock≠af b->W.heap[b]?=Z.heap[b]?:=λb c d=>by rw[h.grown.block b (by rw[jl];omega) (λe=>d e.symm),bU Z _ b c]
theorem IA.FV {v':aj}{x:Int}{Z W:ax}(h:IA ex B pb nb s kd o w0 je p N nv ks is kv iv kv v' ks x Z W):NB nb kd o kv iv W:=by
 unfold NB
 rw[h.old nb (block_lt h.ii.box) (λe=>by obtain⟨b,a⟩:=vk h.ii.kr e;exact kR a h.ii.box iG rfl)]
 exact h.ii.box
theorem IA.FW {v':aj}{x:Int}{Z W:ax}(h:IA ex B pb nb s kd o w0 je p N nv ks is kv iv iv v' is x Z W):NB nb kd o kv iv W:=by
 unfold NB
 rw[h.old nb (block_lt h.ii.box) (λe=>by obtain⟨b,a⟩:=vk h.ii.ir e;exact kR a h.ii.box iG rfl)]
 exact h.ii.box
theorem IA.YS {v':aj}{x:Int}{Z W:ax}(h:IA ex B pb nb s kd o w0 je p N nv ks is kv iv kv v' ks x Z W):II ex B pb nb s kd o w0 je p N nv (ks++[x]) is v' iv (W.setCell ⟨nb,3,ae⟩ v'):=by
 have d:=h.FV;have v:=jl Z (.cells #[.int .i64 x] 3);have f:∀b,b≠nb->(W.setCell ⟨nb,3,ae⟩ v').heap[b]?=W.heap[b]?:=λb a=>jm _ a
 obtain⟨xs,w,y⟩:=h.ii.pv.row
 have z:kv.ownBlock≠af pb:=λe=>by obtain⟨A,i⟩:=vk h.ii.kr e;exact kR i h.ii.pv.at_ iG rfl
 have n:W.heap[pb]?=af (.cells #[.string s,.int .i64 p,nv] 136):=by rw[h.old pb (block_lt h.ii.pv.at_) z];exact h.ii.pv.at_
 have q:∀b,v'.ownBlock=af b->kv.ownBlock=af b\/Z.heap.size+1<=b:=λb a=>by have:=h.new b a;rw[v]at this;exact this
 refine⟨⟨?_,h.ii.pv.lo,xs,?_,?_⟩,?_,?_,?_,?_,?_,h.ii.oK,h.ii.Dz⟩
 ·unfold jw
  rw[f pb (kR n d iG)];exact n
 ·refine qW w λg j c hv=>?_
  rw[f g (λe=>h.ii.oK (by rw[<-e];exact hv)),h.old g (block_lt c) (λe=>by obtain⟨A,i⟩:=vk h.ii.kr e;exact kR i c iG rfl)]
  exact c
 ·refine y.keep λb j a hc=>?_
  have r:kv.ownBlock≠af b:=λe=>a (.inr (.inl e))
  refine⟨λe=>?_,?_⟩
  ·rcases e with e|e|e
   ·exact a (.inl e)
   ·rcases q b e with t|t
    ·exact r t
    ·have:=block_lt hc;omega
   ·exact a (.inr (.inr e))
  ·have l:W.heap[b]?=af (.cells j 3):=by rw[h.old b (block_lt hc) r];exact hc
   rw[f b (kR l d iG)];exact l
 ·unfold NB at d⊢
  simp[aA,aC,d]
 ·rw[bF,aY,dF]
  exact qW h.row λg j c _=>by rw[f g (kR c d iG)];exact c
 ·refine qW h.ii.ir λg j c hv=>?_
  have l:W.heap[g]?=af (.cells j 3):=by rw[h.old g (block_lt c) (λe=>h.ii.ne g e hv)];exact c
  rw[f g (kR l d iG)];exact l
 ·intro b a e
  rcases q b a with m|m
  ·exact h.ii.ne b m e
  ·have:=(h.ii.ir.lt b e).2;omega
 ·refine⟨h.grown.os.trans h.ii.pi.os,h.grown.tape.trans h.ii.pi.tape,h.grown.output.trans h.ii.pi.output,?_,λk u m i C=>?_,h.ii.pi.own⟩
  ·simp only[aA,aI]
   have:=h.grown.size;have:=h.ii.pi.size;omega
  ·have D:k<Z.heap.size:=aN u h.ii.pi.size
   rw[f k i,h.old k D (λe=>by have:=(h.ii.kr.lt k e).1;omega)];exact h.ii.pi.block k u m i C
theorem IA.YT {v':aj}{x:Int}{Z W:ax}(h:IA ex B pb nb s kd o w0 je p N nv ks is kv iv iv v' is x Z W):II ex B pb nb s kd o w0 je p N nv ks (is++[x]) kv v' (W.setCell ⟨nb,4,ae⟩ v'):=by
 have d:=h.FW;have v:=jl Z (.cells #[.int .i64 x] 3);have f:∀b,b≠nb->(W.setCell ⟨nb,4,ae⟩ v').heap[b]?=W.heap[b]?:=λb a=>jm _ a
 obtain⟨xs,w,y⟩:=h.ii.pv.row
 have z:iv.ownBlock≠af pb:=λe=>by obtain⟨A,i⟩:=vk h.ii.ir e;exact kR i h.ii.pv.at_ iG rfl
 have n:W.heap[pb]?=af (.cells #[.string s,.int .i64 p,nv] 136):=by rw[h.old pb (block_lt h.ii.pv.at_) z];exact h.ii.pv.at_
 have q:∀b,v'.ownBlock=af b->iv.ownBlock=af b\/Z.heap.size+1<=b:=λb a=>by have:=h.new b a;rw[v]at this;exact this
 refine⟨⟨?_,h.ii.pv.lo,xs,?_,?_⟩,?_,?_,?_,?_,?_,h.ii.oK,h.ii.Dz⟩
 ·unfold jw
  rw[f pb (kR n d iG)];exact n
 ·refine qW w λg j c hv=>?_
  rw[f g (λe=>h.ii.oK (by rw[<-e];exact hv)),h.old g (block_lt c) (λe=>by obtain⟨A,i⟩:=vk h.ii.ir e;exact kR i c iG rfl)]
  exact c
 ·refine y.keep λb j a hc=>?_
  have r:iv.ownBlock≠af b:=λe=>a (.inr (.inr e))
  refine⟨λe=>?_,?_⟩
  ·rcases e with e|e|e
   ·exact a (.inl e)
   ·exact a (.inr (.inl e))
   ·rcases q b e with t|t
    ·exact r t
    ·have:=block_lt hc;omega
  ·have l:W.heap[b]?=af (.cells j 3):=by rw[h.old b (block_lt hc) r];exact hc
   rw[f b (kR l d iG)];exact l
 ·unfold NB at d⊢
  simp[aA,aC,d]
 ·refine qW h.ii.kr λg j c hv=>?_
  have l:W.heap[g]?=af (.cells j 3):=by rw[h.old g (block_lt c) (λe=>h.ii.ne g hv e)];exact c
  rw[f g (kR l d iG)];exact l
 ·rw[bF,aY,dF]
  exact qW h.row λg j c _=>by rw[f g (kR c d iG)];exact c
 ·intro b a e
  rcases q b e with m|m
  ·exact h.ii.ne b a m
  ·have:=(h.ii.kr.lt b a).2;omega
 ·refine⟨h.grown.os.trans h.ii.pi.os,h.grown.tape.trans h.ii.pi.tape,h.grown.output.trans h.ii.pi.output,?_,λk u m i C=>?_,h.ii.pi.own⟩
  ·simp only[aA,aI]
   have:=h.grown.size;have:=h.ii.pi.size;omega
  ·have D:k<Z.heap.size:=aN u h.ii.pi.size
   rw[f k i,h.old k D (λe=>by have:=(h.ii.ir.lt k e).1;omega)];exact h.ii.pi.block k u m i C
end
structure VB (ex:Nat->Prop)(B pb nb:Nat)(s:ByteArray)(w0:ax)(je:aj)(p:Nat)(N:List Nd)(nv:aj)(bx:Array aj)(X:ax):Prop where
 pv:PV ex B pb s p N nv X
 box:X.heap[nb]?=af (.cells bx 150)
 pk:PK pb je nv w0 X
 oK:nv.ownBlock≠af nb
 lo:w0.heap.size<=nb
theorem PK.pi {pb nb:Nat}{n0 b c:aj}{w X Y:ax}(h:PK pb n0 b w X)(k:PI pb nb b c X Y)(l:w.heap.size<=nb):PK pb n0 c w Y where
 os:=k.os.trans h.os
 tape:=k.tape.trans h.tape
 output:=k.output.trans h.output
 size:=aJ h.size k.size
 block:=λq d a f=>by
  rw[k.block q (aN d h.size) a iE (λe=>by
   rcases h.own q e with i|i
   ·exact f i
   ·omega)]
  exact h.block q d a f
 own:=λg j=>by
  rcases k.own g j with a|a
  ·exact h.own g a
  ·exact .inr (aJ h.size a)
section
variable {ex:Nat->Prop} {B pb nb:Nat} {s:ByteArray} {w0:ax} {je:aj} {p q:Nat} {N N2:List Nd} {nv jh:aj} {bx:Array aj} {X Y:ax}
theorem VB.start (b:PV ex B pb s p N nv X)(a:PK pb je nv w0 X)(bx:Array aj):VB ex B pb X.heap.size s w0 je p N nv bx (X.alloc (.cells bx 150)):=
 ⟨b.grow (iW X _),aX X _,a.Au ((iW X _).mono a.size),λe=>by
  obtain⟨xs,c,-⟩:=b.row;have:=(c.lt _ e).2
  omega,a.size⟩
theorem VB.ps (h:VB ex B pb nb s w0 je p N nv bx X)(k:PS pb X Y)(a:jw Y pb s q nv):VB ex B pb nb s w0 je q N nv bx Y:=
 ⟨h.pv.ps k a,by rw[k.block nb (block_lt h.box) (kR h.box h.pv.at_ iG) (λe=>by cases e)];exact h.box,h.pk.trans (k.pk nv),h.oK,h.lo⟩
theorem VB.grow (h:VB ex B pb nb s w0 je p N nv bx X)(k:aQ X.heap.size X Y):VB ex B pb nb s w0 je p N nv bx Y:=h.ps (PK.below k) (h.pv.at_.grow k)
theorem VB.fill (h:VB ex B pb nb s w0 je p N nv bx X){by':Array aj}(d:Y.heap[nb]?=af (.cells by' 150))(a:∀k,k≠nb->Y.heap[k]?=X.heap[k]?)(hs:Y.heap.size=X.heap.size)(c:Y.os=X.os/\Y.tape=X.tape/\Y.output=X.output):VB ex B pb nb s w0 je p N nv by' Y:=by
 obtain⟨xs,f,i⟩:=h.pv.row;refine⟨⟨?_,h.pv.lo,xs,qW f λg j l hv=>?_,i.keep λb j m hc=>⟨m,?_⟩⟩,d,h.pk.Au ⟨c.1,c.2.1,c.2.2,iE,λk n=>a k (by have:=h.lo;omega)⟩,h.oK,h.lo⟩
 ·unfold jw
  rw[a pb (kR h.pv.at_ h.box iG)];exact h.pv.at_
 ·rw[a g (λe=>h.oK (by rw[<-e];exact hv))];exact l
 ·rw[a b (kR hc h.box iG)];exact hc
theorem YU {nb k:Nat}(X:ax)(a b c d e:aj)(f:k≠nb):(((((X.setCell ⟨nb,0,ae⟩ a).setCell ⟨nb,1,ae⟩ b).setCell ⟨nb,2,ae⟩ c).setCell ⟨nb,3,ae⟩ d).setCell ⟨nb,4,ae⟩ e).heap[k]?=X.heap[k]?:=by rw[jm _ f,jm _ f,jm _ f,jm _ f,jm _ f]
theorem YV {nb:Nat}(X:ax)(a b c d e:aj):(((((X.setCell ⟨nb,0,ae⟩ a).setCell ⟨nb,1,ae⟩ b).setCell ⟨nb,2,ae⟩ c).setCell ⟨nb,3,ae⟩ d).setCell ⟨nb,4,ae⟩ e).heap.size=X.heap.size:=by simp only[aA,aI]
theorem YW {nb:Nat}(X:ax)(a b c d e:aj)(Y:ax)(f:Y=((((X.setCell ⟨nb,0,ae⟩ a).setCell ⟨nb,1,ae⟩ b).setCell ⟨nb,2,ae⟩ c).setCell ⟨nb,3,ae⟩ d).setCell ⟨nb,4,ae⟩ e):Y.os=X.os/\Y.tape=X.tape/\Y.output=X.output:=by
 have s:∀(Z:ax) (p:Addr) (v:aj),(Z.setCell p v).os=Z.os/\(Z.setCell p v).tape=Z.tape/\(Z.setCell p v).output=Z.output:=λ_ _ _=>⟨rfl,rfl,rfl⟩
 rw[f];refine⟨?_,?_,?_⟩
 ·rw[(s _ _ _).1,(s _ _ _).1,(s _ _ _).1,(s _ _ _).1,(s _ _ _).1]
 ·rw[(s _ _ _).2.1,(s _ _ _).2.1,(s _ _ _).2.1,(s _ _ _).2.1,(s _ _ _).2.1]
 ·rw[(s _ _ _).2.2,(s _ _ _).2.2,(s _ _ _).2.2,(s _ _ _).2.2,(s _ _ _).2.2]
theorem VB.yZ {l m n o q:aj}(h:VB ex B pb nb s w0 je p N nv #[l,m,n,o,q] X)(a b c d e:aj):VB ex B pb nb s w0 je p N nv #[a,b,c,d,e] (((((X.setCell ⟨nb,0,ae⟩ a).setCell ⟨nb,1,ae⟩ b).setCell ⟨nb,2,ae⟩ c).setCell ⟨nb,3,ae⟩ d).setCell ⟨nb,4,ae⟩ e):=by
 have f:=Dx h.box a b c d e;have g:=λk (r:k≠nb)=>YU X a b c d e r
 have i:=YV (nb:=nb) X a b c d e;have j:=YW (nb:=nb) X a b c d e _ rfl;generalize((((X.setCell ⟨nb,0,ae⟩ a).setCell ⟨nb,1,ae⟩ b).setCell ⟨nb,2,ae⟩ c).setCell ⟨nb,3,ae⟩ d).setCell ⟨nb,4,ae⟩ e=Y at f g i j⊢;exact h.fill f g i j
theorem VB.set1 (h:VB ex B pb nb s w0 je p N nv bx X)(j:Nat)(a:aj):VB ex B pb nb s w0 je p N nv (bx.setIfInBounds j a) (X.setCell ⟨nb,j,ae⟩ a):=
 h.fill (by simp[aA,aC,h.box]) (λk b=>jm _ b) (by simp[aA]) ⟨rfl,rfl,rfl⟩
theorem VB.val (h:VB ex B pb nb s w0 je p N nv bx X)(hv:PV ex B pb s q N2 jh Y)(a:PK pb nv jh X Y):VB ex B pb nb s w0 je q N2 jh bx Y:=
 ⟨hv,by rw[a.block nb (block_lt h.box) (kR h.box h.pv.at_ iG) h.oK];exact h.box,h.pk.trans a,λe=>by
  rcases a.own nb e with b|b
  ·exact h.oK b
  ·have:=block_lt h.box;omega,h.lo⟩
theorem VB.items {kd:Int}{o:Bool}{d is:List Int}{f g:aj}(h:VB ex B pb nb s w0 je p N nv bx X)(hex:∀b,ex b->b<w0.heap.size)(a:II ex B pb nb s kd o X nv q N2 jh d is f g Y)(i:d.length<=4096)(j:is.length<=4096):
  VB ex B pb nb s w0 je q N2 jh #[.int .i64 kd,.string ⟨#[]⟩,.bool o,f,g] Y/\ji ex Y f d/\ji ex Y g is:=by
 refine⟨⟨a.pv.weak λb _ c _=>λe=>c (.inl e),a.box,h.pk.pi a.pi h.lo,a.oK,h.lo⟩,ji.LP a.kr iE λb c e=>?_,ji.LP a.ir iE λb c e=>?_⟩
 ·have:=(a.kr.lt b c).1
  have:=hex b e;have:=h.pk.size;omega
 ·have:=(a.ir.lt b c).1
  have:=hex b e;have:=h.pk.size;omega
theorem VB.base (h:VB ex B pb nb s w0 je p N nv bx X)(a:B<=w0.heap.size)(b:∀g,je.ownBlock=af g->B<=g):aQ B w0 X:=h.pk.base a h.pv.lo b
theorem VB.DC (h:VB ex B pb nb s w0 je p N nv bx X)(hex:∀b,ex b->b<w0.heap.size):∀b,ex b->b<X.heap.size:=λb a=>aN (hex b a) h.pk.size
theorem VB.fin {i:Nat}(h:VB ex B pb nb s w0 je p N nv bx X)(hi:i<N.length)(n:Nd){a b:aj}(c:ji ex X a n.keys)(hv:ji ex X b n.items):
  ∃g cap,nv=.slice (af ⟨g,0,ae⟩) N.length cap/\(∀o,X.frozen? ⟨g,o,ae⟩=ay)/\(∀o,o<N.length*5->(X.cell? ⟨g,o,ae⟩).isSome=az)/\
   PV ex B pb s p (N.set i n) nv (lT X g (i*5) (.int .i64 n.kind) (.string n.text) (.bool n.ord) a b)/\PK pb je nv w0 (lT X g (i*5) (.int .i64 n.kind) (.string n.text) (.bool n.ord) a b):=by
 obtain⟨g,cap,d,e,f,-,j,k⟩:=h.pv.put hi n c hv;exact⟨g,cap,d,e,f,j,h.pk.trans k⟩
theorem VB.fin_at {i g cap L:Nat}(h:VB ex B pb nb s w0 je p N (.slice (af ⟨g,0,ae⟩) L cap) bx X)(d:L=N.length)(hi:i<N.length)(n:Nd){a b:aj}(e:ji ex X a n.keys)(hv:ji ex X b n.items):
  PV ex B pb s p (N.set i n) (.slice (af ⟨g,0,ae⟩) L cap) (lT X g (i*5) (.int .i64 n.kind) (.string n.text) (.bool n.ord) a b)/\PK pb je (.slice (af ⟨g,0,ae⟩) L cap) w0 (lT X g (i*5) (.int .i64 n.kind) (.string n.text) (.bool n.ord) a b):=by
 subst d;obtain⟨g2,k,c,-,-,f,j⟩:=h.fin hi n e hv;simp only[Value.slice.injEq,Option.some.injEq,Addr.mk.injEq,and_true]at c;obtain⟨rfl,-,rfl⟩:=c;exact⟨f,j⟩
theorem LU {w:ax}{v:aj}{l:List Int}(h:ji ex w v l):∃a n c,v=.slice a n c:=by obtain⟨a,c,b,-⟩:=h;exact⟨a,_,c,b⟩
theorem ji.grow {w w':ax}{v:aj}{l:List Int}(h:ji ex w v l)(k:aQ w.heap.size w w'):ji ex w' v l:=
 h.keep λb c a hc=>⟨a,by rw[k.block b (block_lt hc)];exact hc⟩
theorem ji.ps {w w':ax}{v:aj}{l:List Int}(h:ji ex w v l)(k:PS pb w w')(hp:jw w pb s p nv):ji ex w' v l:=
 h.keep λb c a hc=>⟨a,by rw[k.block b (block_lt hc) (kR hc hp iG) (λe=>by cases e)];exact hc⟩
theorem YX {w w':ax}(a:aQ w.heap.size w w'){b o:Nat}(h:w.frozen? ⟨b,o,ae⟩=ay)(c:b<w.heap.size):w'.frozen? ⟨b,o,ae⟩=ay:=by unfold World.frozen? at h⊢;rw[a.block b c];exact h
end
section
variable {S:List UInt8} {k p:Nat} {N:List Nd}
theorem YY (h:4096<=N.length):jd S (k+1) p N=ae:=by unfold jd;rw[gY h]
theorem LV (h:¬4096<=N.length)(hc:S[p]?=af 34):jd S (k+1) p N=(oC (S.drop (p+1))).map λt=>(p+1+t.2,N++[⟨5,⟨t.1.toArray⟩,ay,[],[]⟩]):=by unfold jd;rw[gZ h,hc];cases oC (S.drop (p+1))<;>rfl
theorem LX (h:¬4096<=N.length)(hc:S[p]?=af 35):jd S (k+1) p N=(uG (jq (S.drop (p+1)))).map λt=>(p+1+(jq (S.drop (p+1))).length,N++[⟨6,⟨t.toArray⟩,ay,[],[]⟩]):=by unfold jd;rw[gZ h,hc];simp only;cases uG (jq (S.drop (p+1)))<;>rfl
theorem YZ (h:¬4096<=N.length)(hc:S[p]?=af 64):jd S (k+1) p N=af (p+1+(jq (S.drop (p+1))).length,N++[⟨7,⟨(jq (S.drop (p+1))).toArray⟩,ay,[],[]⟩]):=by unfold jd;rw[gZ h,hc];rfl
theorem Y0 (h:¬4096<=N.length)(hc:S[p]?=af 37):jd S (k+1) p N=af (p+1+(jq (S.drop (p+1))).length,N++[⟨8,⟨(jq (S.drop (p+1))).toArray⟩,ay,[],[]⟩]):=by unfold jd;rw[gZ h,hc];rfl
theorem Y3 (h:¬4096<=N.length)(hc:S[p]?=af 33)(a:kG S (p+1+(jq (S.drop (p+1))).length) 40=ae):jd S (k+1) p N=ae:=by unfold jd;rw[gZ h,hc];simp only[a]
theorem Y4 (h:¬4096<=N.length)(hc:S[p]?=af 33)(a:Nat)(b:kG S (p+1+(jq (S.drop (p+1))).length) 40=af a)(c:jd S k a (N++[jG])=ae):jd S (k+1) p N=ae:=by unfold jd;rw[gZ h,hc];simp only[b,c]
theorem Y5 (h:¬4096<=N.length)(hc:S[p]?=af 33)(a b:Nat)(N2:List Nd)(c:kG S (p+1+(jq (S.drop (p+1))).length) 40=af a)(d:jd S k a (N++[jG])=af (b,N2))(e:kG S b 41=ae):jd S (k+1) p N=ae:=by unfold jd;rw[gZ h,hc];simp only[c,d,e]
theorem Y6 (h:¬4096<=N.length)(hc:S[p]?=af 33)(a b c:Nat)(N2:List Nd)(d:kG S (p+1+(jq (S.drop (p+1))).length) 40=af a)(e:jd S k a (N++[jG])=af (b,N2))(f:kG S b 41=af c):
  jd S (k+1) p N=af (c,N2.set N.length ⟨11,⟨(jq (S.drop (p+1))).toArray⟩,ay,[],[((N.length+1:Nat):Int)]⟩):=by
 unfold jd;rw[gZ h,hc];simp only[d,e,f]
theorem Y7 (h:¬4096<=N.length)(hc:S[p]?=af 91):jd S (k+1) p N=(kK (jd S k) S 93 ay (S.length+2) (p+1) (N++[jG]) [] []).map λr=>(r.1,r.2.1.set N.length ⟨9,⟨#[]⟩,ay,r.2.2.1,r.2.2.2⟩):=by unfold jd;rw[gZ h,hc];simp only;cases kK (jd S k) S 93 ay (S.length+2) (p+1) (N++[jG]) [] []<;>rfl
theorem Y8 (h:¬4096<=N.length)(hc:S[p]?=af 123):jd S (k+1) p N=(kK (jd S k) S 125 az (S.length+2) (p+1) (N++[jG]) [] []).map λr=>(r.1,r.2.1.set N.length ⟨10,⟨#[]⟩,ay,r.2.2.1,r.2.2.2⟩):=by unfold jd;rw[gZ h,hc];simp only;cases kK (jd S k) S 125 az (S.length+2) (p+1) (N++[jG]) [] []<;>rfl
theorem Y9 (h:¬4096<=N.length)(hc:S[p]?=af 60):jd S (k+1) p N=(kK (jd S k) S 62 az (S.length+2) (p+1) (N++[jG]) [] []).map λr=>(r.1,r.2.1.set N.length ⟨10,⟨#[]⟩,az,r.2.2.1,r.2.2.2⟩):=by unfold jd;rw[gZ h,hc];simp only;cases kK (jd S k) S 62 az (S.length+2) (p+1) (N++[jG]) [] []<;>rfl
theorem Za (h:¬4096<=N.length)(hc:S[p]?≠af 34/\S[p]?≠af 35/\S[p]?≠af 64/\S[p]?≠af 37/\S[p]?≠af 33/\S[p]?≠af 91/\S[p]?≠af 123/\S[p]?≠af 60):
  jd S (k+1) p N=af (p+(jq (S.drop p)).length,N++[sZ (jq (S.drop p))]):=by
 obtain⟨a,b,c,d,e,f,g,i⟩:=hc;unfold jd;rw[gZ h];split
 ·exact absurd ‹_› a
 ·exact absurd ‹_› b
 ·exact absurd ‹_› c
 ·exact absurd ‹_› d
 ·exact absurd ‹_› e
 ·exact absurd ‹_› f
 ·exact absurd ‹_› g
 ·exact absurd ‹_› i
 ·rfl
theorem Zb (w:List UInt8):∃kd t,sZ w=⟨kd,t,ay,[],[]⟩:=by
 unfold sZ;split
 ·exact⟨_,_,rfl⟩
 split
 ·exact⟨_,_,rfl⟩
 split
 ·exact⟨_,_,rfl⟩
 split
 ·exact⟨_,_,rfl⟩
 ·exact⟨_,_,rfl⟩
theorem AL (N:List Nd)(a b:Nd):(N++[a]).set N.length b=N++[b]:=by
 rw[List.set_append_right _ _ (aW _),Nat.sub_self]
 rfl
end
theorem Zc {a:Act}{o:dn}(p v:bH)(l:o.op=.store 150 p v)(g i:Nat)(kd:Int)(tx:ByteArray)(b:Bool)(c d:Option Addr)(e f h k:Nat)(hp:a.eval p=.pointer (af ⟨g,i,ae⟩))(hv:a.eval v=.agg #[.int .i64 kd,.string tx,.bool b,.slice c e f,.slice d h k])
  (W:ax)(hc:∀j,j<5->(W.cell? ⟨g,i+j,ae⟩).isSome=az)(hf:∀j,W.frozen? ⟨g,j,ae⟩=ay):
  (execOp a.eval o).run aH W=.ok .skip (lT W g i (.int .i64 kd) (.string tx) (.bool b) (.slice c e f) (.slice d h k)):=by
 obtain⟨n,m⟩:=aP.1 (hc 0 iG);obtain⟨q,r⟩:=aP.1 (hc 1 iG);obtain⟨s,t⟩:=aP.1 (hc 2 iG);obtain⟨u,w⟩:=aP.1 (hc 3 iG);obtain⟨x,y⟩:=aP.1 (hc 4 iG);rw[Nat.add_zero]at m;unfold execOp;rw[l];simp only[hp,hv];unfold lT;go_simp
theorem LY {o:dn}{a:Act}(s x:bH)(c:o.op=.call {callee:=.builtin .append,args:=#[s,x],argTypes:=#[36,36]}){w:ax}{B:Nat}{v:aj}{l:List Int}(n:Int)(hv:a.eval s=v)(hx:a.eval x=.slice (af ⟨w.heap.size,0,ae⟩) 1 1)
  (d:w.ownsRow B 3 1 v l.length (l.map (bC .i64)))(r:l.length<=1000000)(t:B<=w.heap.size):
  ∃v' W',(execOp a.eval o).run aH (w.alloc (.cells #[.int .i64 n] 3))=.ok (.value v') W'/\W'.ownsRow B 3 1 v' (l.length+1) (l.map (bC .i64)++[.int .i64 n])/\
   (w.alloc (.cells #[.int .i64 n] 3)).grownBy W' v.ownBlock/\∀k,v'.ownBlock=af k->v.ownBlock=af k\/(w.alloc (.cells #[.int .i64 n] 3)).heap.size<=k:=by
 obtain⟨e,hi,f,g,h⟩:=info_parts YN
 obtain⟨v',W',hr,i,m,p⟩:=uZ.YK (P:=aH) (w:=w.alloc (.cells #[.int .i64 n] 3)) B 36 o.type 3 e (.int .i64 0) 1 8 Tryz.underlying36 hi f g h rfl iG v l.length (l.map (bC .i64)) (World.ownsRow.alloc d _) ⟨w.heap.size,0,ae⟩ 1 1 [.int .i64 n] rfl (by
  intro j u q;have e1:(⟨w.heap.size,0,ae⟩:Addr).add j=⟨w.heap.size,j,ae⟩:=by unfold Addr.add;split<;>simp_all
  rw[e1,ah (aX w _) j];simpa using q) (by intro u b;simp at b;subst b;rfl) iG (by unfold maxLen;omega) iE (by rw[jl];omega)
 refine⟨v',W',?_,i,m,p⟩;unfold execOp;simp only[c,resolve,invoke,builtin,Sem.run_bind,Sem.run_pure,Result.andThen_ok,List.map_toArray,List.map_cons,List.map_nil,hv,hx,hr]
theorem LZ {a:Act}{o:dn}{nb:Nat}(p:bH)(b:o.op=.nilCheck p)(hp:a.eval p=.pointer (af ⟨nb,0,ae⟩))(W:ax):(execOp a.eval o).run aH W=.ok (.value (.pointer (af ⟨nb,0,ae⟩))) W:=by unfold execOp;rw[b];simp only[hp];go_simp
theorem L6 {a:Act}{o:dn}{nb:Nat}(p:bH)(j:Nat)(b:j=3\/j=4)(c:o.op=.fieldAddr 150 p j)(hp:a.eval p=.pointer (af ⟨nb,0,ae⟩))(W:ax):(execOp a.eval o).run aH W=.ok (.value (.pointer (af ⟨nb,j,ae⟩))) W:=by
 unfold execOp;rw[c];simp only[hp];rcases b with rfl|rfl
 ·go_simp
 ·go_simp
theorem L8 {a:Act}{o:dn}{nb j:Nat}(p v:bH)(b:o.op=.store 36 p v)(A:Option Addr)(n c:Nat)(hp:a.eval p=.pointer (af ⟨nb,j,ae⟩))(hv:a.eval v=.slice A n c)(W:ax)(x:aj)(hx:W.cell? ⟨nb,j,ae⟩=af x)(hf:W.frozen? ⟨nb,j,ae⟩=ay):(execOp a.eval o).run aH W=.ok .skip (W.setCell ⟨nb,j,ae⟩ (.slice A n c)):=by unfold execOp;rw[b];simp only[hp,hv];go_simp
section
variable {ex:Nat->Prop} {B pb nb:Nat} {s:ByteArray} {kd:Int} {o:Bool} {w0:ax} {je:aj} {q1:Nat} {M:List Nd} {nv:aj} {ks is:List Int} {kv iv:aj} {Z:ax} {k:Nat}
theorem Zd {Q:Exit->Act->ax->Prop}{id:Nat}{a:Act}{l:List dn}(i m q on of os:dn){aF:Act}(z C:bH)(v:Int)
  (L:l.length=8+6)(hsc:Go.iR.mJ .any l.toArray (8+3)=az)(hs:Region.noSelect l.toArray=az)
  (N:Mix.kN .any l.toArray 8 0 (bJ l.length ay)=af (au 8 az++au (3+3) ay).toArray)(hd:Mix.kS a.tmps.size (l.take 8) []=az)
  (O:l[8]?=af i)(P:l[8+1]?=af m)(R:l[8+2]?=af q)(S:l[8+3]?=af on)(p:l[8+4]?=af of)(b:l[8+5]?=af os)
  (gs:i.guard=ae/\m.guard=ae/\q.guard=ae/\on.guard=ae/\of.guard=ae/\os.guard=ae)(T:os.dst=ae)
  (U:Region.ready .any l.toArray (au 8 az++au (3+3) ay).toArray=[8])
  (X:Region.ready .any l.toArray ((au 8 az++au (3+3) ay).toArray.setIfInBounds 8 az)=[8+1])
  (Y:Region.ready .any l.toArray (((au 8 az++au (3+3) ay).toArray.setIfInBounds 8 az).setIfInBounds (8+1) az)=[8+2])
  (aa:Region.ready .any l.toArray ((((au 8 az++au (3+3) ay).toArray.setIfInBounds 8 az).setIfInBounds (8+1) az).setIfInBounds (8+2) az)=[8+3])
  (ab:Region.ready .any l.toArray (((((au 8 az++au (3+3) ay).toArray.setIfInBounds 8 az).setIfInBounds (8+1) az).setIfInBounds (8+2) az).setIfInBounds (8+3) az)=[8+4])
  (ac:Region.ready .any l.toArray ((((((au 8 az++au (3+3) ay).toArray.setIfInBounds 8 az).setIfInBounds (8+1) az).setIfInBounds (8+2) az).setIfInBounds (8+3) az).setIfInBounds (8+4) az)=[8+5])
  (ad:Region.ready .any l.toArray (((((((au 8 az++au (3+3) ay).toArray.setIfInBounds 8 az).setIfInBounds (8+1) az).setIfInBounds (8+2) az).setIfInBounds (8+3) az).setIfInBounds (8+4) az).setIfInBounds (8+5) az)=[])
  (y:II ex B pb nb s kd o w0 je q1 M nv ks is kv iv Z)(hv:ValAt k s)(ai:0<=v/\v+(k:Int)=33)(ak:jO s.data.toList.length M)(al:M.length<=4096)(am:q1<=s.size)(a2:ks.length<=4096)(a3:is.length<=4096)
  (hA:∀ρ:ax,NB nb kd o kv iv ρ->wpQuiet aH l.toArray (λw'=>∃n,w'=ρ.drewN n) (λa'=>a'=aF) (l.take 8) a)
  (hc:∀W,(execOp aF.eval i).run aH W=.ok (.enter 72 #[.pointer (af ⟨pb,0,ae⟩),.int .i64 v]) W)
  (an:∀x W,(execOp (aF.put i.dst (.int .i64 x)).eval m).run aH W=.ok (.value (.slice (af ⟨W.heap.size,0,ae⟩) 1 1)) (W.alloc (.cells #[.int .i64 x] 3)))
  (ao:q.op=.call {callee:=.builtin .append,args:=#[z,C],argTypes:=#[36,36]})
  (ap:∀x u,((aF.put i.dst (.int .i64 x)).put m.dst u).eval z=kv)(aq:∀x u,((aF.put i.dst (.int .i64 x)).put m.dst u).eval C=u)
  (D E F G:bH)(ar:on.op=.nilCheck D)(av:of.op=.fieldAddr 150 E 3)(aw:os.op=.store 36 F G)
  (aD:∀x u v',(((aF.put i.dst (.int .i64 x)).put m.dst u).put q.dst v').eval D=.pointer (af ⟨nb,0,ae⟩))
  (aE:∀x u v',((((aF.put i.dst (.int .i64 x)).put m.dst u).put q.dst v').put on.dst (.pointer (af ⟨nb,0,ae⟩))).eval E=.pointer (af ⟨nb,0,ae⟩))
  (aG:∀x u v',(((((aF.put i.dst (.int .i64 x)).put m.dst u).put q.dst v').put on.dst (.pointer (af ⟨nb,0,ae⟩))).put of.dst (.pointer (af ⟨nb,3,ae⟩))).eval F=.pointer (af ⟨nb,3,ae⟩))
  (aL:∀x u v',(((((aF.put i.dst (.int .i64 x)).put m.dst u).put q.dst v').put on.dst (.pointer (af ⟨nb,0,ae⟩))).put of.dst (.pointer (af ⟨nb,3,ae⟩))).eval G=v')
  (aM:jd s.data.toList k q1 M=ae->∀a' W,a'.defers=a.defers->aQ B Z W->Q (.panic tK) a' W)
  (hK:∀d f,jd s.data.toList k q1 M=af (d,f)->∀u A n c W g,II ex B pb nb s kd o w0 je d f g (ks++[(M.length:Int)]) is (.slice A n c) iv W->Q .normal (((((aF.put i.dst (.int .i64 (M.length:Int))).put m.dst u).put q.dst (.slice A n c)).put on.dst (.pointer (af ⟨nb,0,ae⟩))).put of.dst (.pointer (af ⟨nb,3,ae⟩))) W):(Code.region id l.toArray az).wp aH Q a Z:=by
 have aR:=λn=>hv _ B pb q1 M nv (Z.drewN n) v ai (y.drewN n).pv (y.drewN n).exs ak al am
 refine uZ.LK 8 i m q on of os (NB nb kd o kv iv) 72 #[.pointer (af ⟨pb,0,ae⟩),.int .i64 v]
  (λx W=>∃d f g,jd s.data.toList k q1 M=af (d,f)/\x=(M.length:Int)/\II ex B pb nb s kd o w0 je d f g ks is kv iv W)
  (λx v' W=>∃d f g V,jd s.data.toList k q1 M=af (d,f)/\x=(M.length:Int)/\IA ex B pb nb s kd o w0 je d f g ks is kv iv kv v' ks x V W)
  (λJ W=>J=tK/\jd s.data.toList k q1 M=ae/\aQ B Z W) 3 iF L hsc hs N hd O P R S p b gs T U X Y aa ab ac ad
  (λn=>y.box) hA hc ?_ ?_ ?_ ?_ an ?_ ?_ ?_ ?_
 ·rintro J a' W a0 ⟨rfl,j,a1⟩
  exact aM j a' W a0 a1
 ·intro n
  refine(aR n).mono λe W h=>?_
  unfold VP at h;cases hval:jd s.data.toList k q1 M with
  |none=>rw[hval]at h;exact .inr ⟨_,h.1,rfl,rfl,(((Same.refl Z).drewN n).below B).trans h.2⟩
  |some r=>obtain⟨d,f⟩:=r;rw[hval]at h;obtain⟨j,g,p,b⟩:=h;exact .inl ⟨_,j,d,f,g,rfl,rfl,(y.drewN n).val p b⟩
 ·rintro x W n ⟨d,f,g,j,p,b⟩
  exact⟨d,f,g,j,p,b.drewN n⟩
 ·rintro x W ⟨d,f,g,j,p,b⟩
  exact⟨b.box,(b.grow (iW W _)).box⟩
 ·rintro x W ⟨d,f,g,j,p,b⟩
  obtain⟨v',W',hr,H,t,I⟩:=LY z C ao (a:=(aF.put i.dst (.int .i64 x)).put m.dst (.slice (af ⟨W.heap.size,0,ae⟩) 1 1)) (w:=W) x (ap x _) (aq x _) b.kr iE b.pi.size;exact⟨v',W',hr,d,f,g,W,j,p,b,H,t,I⟩
 ·rintro x v' W n ⟨d,f,g,V,j,p,b,H,t,I⟩
  exact⟨d,f,g,V,j,p,b,H,⟨t.os,t.tape,t.output,t.size,t.block⟩,I⟩
 ·rintro x v' W ⟨d,f,g,V,j,p,b⟩
  exact b.FV
 ·rintro x u v' W ⟨d,f,g,V,j,rfl,b⟩
  obtain⟨A,c,rfl⟩:=mW b.row;have K:=b.FV;exact⟨_,_,_,LZ D ar (aD _ u _) W,L6 E 3 iG av (aE _ u _) W,L8 F G aw A _ c (aG _ u _) (aL _ u _) W _ ((ah K 3).trans rfl) (aB K 3),hK d f j u A _ c _ g b.YS⟩
theorem L9 {Q:Exit->Act->ax->Prop}{id:Nat}{a:Act}{l:List dn}(i m q on of os:dn){aF:Act}(z C:bH)(v:Int)
  (L:l.length=8+6)(hsc:Go.iR.mJ .any l.toArray (8+3)=az)(hs:Region.noSelect l.toArray=az)
  (N:Mix.kN .any l.toArray 8 0 (bJ l.length ay)=af (au 8 az++au (3+3) ay).toArray)(hd:Mix.kS a.tmps.size (l.take 8) []=az)
  (O:l[8]?=af i)(P:l[8+1]?=af m)(R:l[8+2]?=af q)(S:l[8+3]?=af on)(p:l[8+4]?=af of)(b:l[8+5]?=af os)
  (gs:i.guard=ae/\m.guard=ae/\q.guard=ae/\on.guard=ae/\of.guard=ae/\os.guard=ae)(T:os.dst=ae)
  (U:Region.ready .any l.toArray (au 8 az++au (3+3) ay).toArray=[8])
  (X:Region.ready .any l.toArray ((au 8 az++au (3+3) ay).toArray.setIfInBounds 8 az)=[8+1])
  (Y:Region.ready .any l.toArray (((au 8 az++au (3+3) ay).toArray.setIfInBounds 8 az).setIfInBounds (8+1) az)=[8+2])
  (aa:Region.ready .any l.toArray ((((au 8 az++au (3+3) ay).toArray.setIfInBounds 8 az).setIfInBounds (8+1) az).setIfInBounds (8+2) az)=[8+3])
  (ab:Region.ready .any l.toArray (((((au 8 az++au (3+3) ay).toArray.setIfInBounds 8 az).setIfInBounds (8+1) az).setIfInBounds (8+2) az).setIfInBounds (8+3) az)=[8+4])
  (ac:Region.ready .any l.toArray ((((((au 8 az++au (3+3) ay).toArray.setIfInBounds 8 az).setIfInBounds (8+1) az).setIfInBounds (8+2) az).setIfInBounds (8+3) az).setIfInBounds (8+4) az)=[8+5])
  (ad:Region.ready .any l.toArray (((((((au 8 az++au (3+3) ay).toArray.setIfInBounds 8 az).setIfInBounds (8+1) az).setIfInBounds (8+2) az).setIfInBounds (8+3) az).setIfInBounds (8+4) az).setIfInBounds (8+5) az)=[])
  (y:II ex B pb nb s kd o w0 je q1 M nv ks is kv iv Z)(hv:ValAt k s)(ai:0<=v/\v+(k:Int)=33)(ak:jO s.data.toList.length M)(al:M.length<=4096)(am:q1<=s.size)(a2:ks.length<=4096)(a3:is.length<=4096)
  (hA:∀ρ:ax,NB nb kd o kv iv ρ->wpQuiet aH l.toArray (λw'=>∃n,w'=ρ.drewN n) (λa'=>a'=aF) (l.take 8) a)
  (hc:∀W,(execOp aF.eval i).run aH W=.ok (.enter 72 #[.pointer (af ⟨pb,0,ae⟩),.int .i64 v]) W)
  (an:∀x W,(execOp (aF.put i.dst (.int .i64 x)).eval m).run aH W=.ok (.value (.slice (af ⟨W.heap.size,0,ae⟩) 1 1)) (W.alloc (.cells #[.int .i64 x] 3)))
  (ao:q.op=.call {callee:=.builtin .append,args:=#[z,C],argTypes:=#[36,36]})
  (ap:∀x u,((aF.put i.dst (.int .i64 x)).put m.dst u).eval z=iv)(aq:∀x u,((aF.put i.dst (.int .i64 x)).put m.dst u).eval C=u)
  (D E F G:bH)(ar:on.op=.nilCheck D)(av:of.op=.fieldAddr 150 E 4)(aw:os.op=.store 36 F G)
  (aD:∀x u v',(((aF.put i.dst (.int .i64 x)).put m.dst u).put q.dst v').eval D=.pointer (af ⟨nb,0,ae⟩))
  (aE:∀x u v',((((aF.put i.dst (.int .i64 x)).put m.dst u).put q.dst v').put on.dst (.pointer (af ⟨nb,0,ae⟩))).eval E=.pointer (af ⟨nb,0,ae⟩))
  (aG:∀x u v',(((((aF.put i.dst (.int .i64 x)).put m.dst u).put q.dst v').put on.dst (.pointer (af ⟨nb,0,ae⟩))).put of.dst (.pointer (af ⟨nb,4,ae⟩))).eval F=.pointer (af ⟨nb,4,ae⟩))
  (aL:∀x u v',(((((aF.put i.dst (.int .i64 x)).put m.dst u).put q.dst v').put on.dst (.pointer (af ⟨nb,0,ae⟩))).put of.dst (.pointer (af ⟨nb,4,ae⟩))).eval G=v')
  (aM:jd s.data.toList k q1 M=ae->∀a' W,a'.defers=a.defers->aQ B Z W->Q (.panic tK) a' W)
  (hK:∀d f,jd s.data.toList k q1 M=af (d,f)->∀u A n c W g,II ex B pb nb s kd o w0 je d f g ks (is++[(M.length:Int)]) kv (.slice A n c) W->Q .normal (((((aF.put i.dst (.int .i64 (M.length:Int))).put m.dst u).put q.dst (.slice A n c)).put on.dst (.pointer (af ⟨nb,0,ae⟩))).put of.dst (.pointer (af ⟨nb,4,ae⟩))) W):(Code.region id l.toArray az).wp aH Q a Z:=by
 have aR:=λn=>hv _ B pb q1 M nv (Z.drewN n) v ai (y.drewN n).pv (y.drewN n).exs ak al am
 refine uZ.LK 8 i m q on of os (NB nb kd o kv iv) 72 #[.pointer (af ⟨pb,0,ae⟩),.int .i64 v]
  (λx W=>∃d f g,jd s.data.toList k q1 M=af (d,f)/\x=(M.length:Int)/\II ex B pb nb s kd o w0 je d f g ks is kv iv W)
  (λx v' W=>∃d f g V,jd s.data.toList k q1 M=af (d,f)/\x=(M.length:Int)/\IA ex B pb nb s kd o w0 je d f g ks is kv iv iv v' is x V W)
  (λJ W=>J=tK/\jd s.data.toList k q1 M=ae/\aQ B Z W) 3 iF L hsc hs N hd O P R S p b gs T U X Y aa ab ac ad
  (λn=>y.box) hA hc ?_ ?_ ?_ ?_ an ?_ ?_ ?_ ?_
 ·rintro J a' W a0 ⟨rfl,j,a1⟩
  exact aM j a' W a0 a1
 ·intro n
  refine(aR n).mono λe W h=>?_
  unfold VP at h;cases hval:jd s.data.toList k q1 M with
  |none=>rw[hval]at h;exact .inr ⟨_,h.1,rfl,rfl,(((Same.refl Z).drewN n).below B).trans h.2⟩
  |some r=>obtain⟨d,f⟩:=r;rw[hval]at h;obtain⟨j,g,p,b⟩:=h;exact .inl ⟨_,j,d,f,g,rfl,rfl,(y.drewN n).val p b⟩
 ·rintro x W n ⟨d,f,g,j,p,b⟩
  exact⟨d,f,g,j,p,b.drewN n⟩
 ·rintro x W ⟨d,f,g,j,p,b⟩
  exact⟨b.box,(b.grow (iW W _)).box⟩
 ·rintro x W ⟨d,f,g,j,p,b⟩
  obtain⟨v',W',hr,H,t,I⟩:=LY z C ao (a:=(aF.put i.dst (.int .i64 x)).put m.dst (.slice (af ⟨W.heap.size,0,ae⟩) 1 1)) (w:=W) x (ap x _) (aq x _) b.ir iE b.pi.size;exact⟨v',W',hr,d,f,g,W,j,p,b,H,t,I⟩
 ·rintro x v' W n ⟨d,f,g,V,j,p,b,H,t,I⟩
  exact⟨d,f,g,V,j,p,b,H,⟨t.os,t.tape,t.output,t.size,t.block⟩,I⟩
 ·rintro x v' W ⟨d,f,g,V,j,p,b⟩
  exact b.FW
 ·rintro x u v' W ⟨d,f,g,V,j,rfl,b⟩
  obtain⟨A,c,rfl⟩:=mW b.row;have K:=b.FW;exact⟨_,_,_,LZ D ar (aD _ u _) W,L6 E 4 iG av (aE _ u _) W,L8 F G aw A _ c (aG _ u _) (aL _ u _) W _ ((ah K 4).trans rfl) (aB K 4),hK d f j u A _ c _ g b.YT⟩
end
theorem Zr (p q:Nat)(a b c:aj)(w:ax)(hp:w.heap[p]?=af (.cells #[a,b] 117))(d:w.heap[q]?=af (.cells #[c] 4)):
  CallsD aH 71 #[.pointer (af ⟨p,0,ae⟩),.pointer (af ⟨q,0,ae⟩)] (.panicking tK) w λe u' w'=>e=.returned (.tuple #[])/\u'=.panicking [{v:=.iface 132 (.agg #[]),recovered:=az}]/\w'.heap[p]?=af (.cells #[.slice ae 0 0,.int .i64 0] 117)/\w'.heap[q]?=af (.cells #[.bool ay] 4)/\∀B,B<=p->B<=q->B<=w.heap.size->aQ B w w':=by
 refine dH dN rfl λu x l=>?_
 apply wpS_seq;apply wpS_region;simp[wpOpsS,go_sem,recoverD,l,dK,Exit.thenS,tK];refine wpS_of_wp ?_;have f:(#[Value.pointer (af ⟨p,0,ae⟩),Value.pointer (af ⟨q,0,ae⟩)]++((bJ 15 undef).setIfInBounds 3 (cZ 132 (.agg #[]))).setIfInBounds 0 (cZ 132 (.agg #[])):Array aj)=#[Value.pointer (af ⟨p,0,ae⟩),Value.pointer (af ⟨q,0,ae⟩),cZ 132 (.agg #[]),undef,undef,cZ 132 (.agg #[]),undef,undef,undef,undef,undef,undef,undef,undef,undef,undef,undef]:=by rfl
 rw[f];have y:=iK hp 0 a;have z:=iK hp 1 b;have A:∀o,w.frozen? ⟨p,o,ae⟩=ay:=λo=>aB hp o
 have C:=iK d 0 c;have D:∀o,w.frozen? ⟨q,o,ae⟩=ay:=λo=>aB d o
 have m:p<w.heap.size:=block_lt hp;have n:q<w.heap.size:=block_lt d
 have g:q≠p:=by rintro rfl;rw[hp]at d;cases d
 have r:p≠q:=λe=>g e.symm
 have i:=ag (iJ hp d);clear f hp d;have E:∀W:ax,(Instr.typeAssert (.iface 132 (.agg #[])) 20 132 az).run aH W=.ok (.tuple #[.agg #[],.bool az]) W:=λW=>iF
 go_wp2
 have hA:((w.setCell ⟨p,0,ae⟩ (.slice ae 0 0)).setCell ⟨p,1,ae⟩ (.int .i64 0)).heap[p]?=af (.cells #[.slice ae 0 0,.int .i64 0] 117):=by have h:=i.1.1;simp[aA,aC,h]
 have j:((w.setCell ⟨p,0,ae⟩ (.slice ae 0 0)).setCell ⟨p,1,ae⟩ (.int .i64 0)).heap[q]?=af (.cells #[c] 4):=by have h:=i.1.2;simp[aA,aC,h,r]
 have hS:((w.setCell ⟨p,0,ae⟩ (.slice ae 0 0)).setCell ⟨p,1,ae⟩ (.int .i64 0)).heap.size=w.heap.size:=by simp[aA]
 refine⟨rfl,_,rfl,.tuple #[],?_,rfl,rfl,?_,?_,λB k s t=>?_⟩
 ·simp only[results,dG]
  go_simp
 ·rw[bU _ _ _ (by simp only[aA,aI];exact m)]
  generalize(w.setCell ⟨p,0,ae⟩ (.slice ae 0 0)).setCell ⟨p,1,ae⟩ (.int .i64 0)=V at hA⊢;simp[aA,aC,hA,g]
 ·rw[bU _ _ _ (by simp only[aA,aI];exact n)]
  generalize(w.setCell ⟨p,0,ae⟩ (.slice ae 0 0)).setCell ⟨p,1,ae⟩ (.int .i64 0)=V at j⊢;simp[aA,aC,j]
 ·exact((((Below.refl B w).setCell (p:=⟨p,0,ae⟩) k _).setCell (p:=⟨p,1,ae⟩) k _).setCell (p:=⟨q,0,ae⟩) s _).alloc (by simp only[aA,aI];exact t) _
theorem Zt (p q:Nat)(w:ax):
  CallsD aH 71 #[.pointer (af ⟨p,0,ae⟩),.pointer (af ⟨q,0,ae⟩)] .returning w λe u' w'=>e=.returned (.tuple #[])/\u'=.returning/\w'=w:=by
 refine dH dN rfl λc d a=>?_
 apply wpS_seq;apply wpS_region;simp[wpOpsS,go_sem,recoverD,a,dK,Exit.thenS];refine wpS_of_wp ?_;have b:(#[Value.pointer (af ⟨p,0,ae⟩),Value.pointer (af ⟨q,0,ae⟩)]++((bJ 15 undef).setIfInBounds 3 bP).setIfInBounds 0 bP:Array aj)=#[Value.pointer (af ⟨p,0,ae⟩),Value.pointer (af ⟨q,0,ae⟩),bP,undef,undef,bP,undef,undef,undef,undef,undef,undef,undef,undef,undef,undef,undef]:=by rfl
 rw[b];clear b;go_wp2;refine⟨rfl,.returning,?_,.tuple #[],?_,rfl,rfl,rfl⟩
 ·rw[<-a]
 ·simp only[results,dG]
  go_simp
