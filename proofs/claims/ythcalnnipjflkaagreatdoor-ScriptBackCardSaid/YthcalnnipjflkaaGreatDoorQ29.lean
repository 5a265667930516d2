import Derived.Test.YthcalnnipjflkaaGreatDoorQ28
open Go.Lib renaming hid -> ae, cell_of_heap -> af, IsBuilder -> bC, alloc_old -> bJ, BuilderAt -> bK
open Option renaming some -> ag, none -> ay
open Go renaming World -> ah, Value -> aC, Calls -> aS, heap_alloc_new -> bn
open Array renaming getElem?_eq_some_iff -> aj
open Go.Proofs.Tryz renaming prog -> au, underlying9 -> aO, ntmps10 -> bP, func10 -> bQ
open Go.RowKit renaming Below -> ax
open List renaming getElem?_eq_getElem -> az, length_append -> aH, getElem?_eq_some_iff -> aI, take_add_one -> aK, length_cons -> aP, getElem_mem -> aQ, mem_singleton -> aU, drop_eq_getElem_cons -> aV, all_eq_true -> aX, take_length -> aY, mem_append -> aZ, length_replicate -> bu, mem_of_getElem? -> bz, length_nil -> bG, append_nil -> bH
open Nat renaming zero_le -> aA, le_refl -> aN, zero_add -> bD, le_trans -> bF
open Bool renaming true -> aB, false -> aT, and_eq_true -> aW, true_and -> bI
open Go.RowKit.Below renaming refl -> aJ
set_option linter.all false
set_option maxHeartbeats 4000000
set_option maxRecDepth 100000
namespace Go.Proofs.YthcalnnipjflkaaGreatDoor
open Go.RowKit
open Go.Lib hiding intOf
theorem agX {key:aC}{kl:Lit}(h:keyOf au 9 key=ag kl):∃s:ByteArray,key=.string s/\kl=.string s.data.toList:=by
 rw[keyOf_string aO]at h;unfold mapKey at h;rw[aO]at h;cases key with
 |string s=>simp at h;exact⟨s,rfl,h.2.symm⟩
 |_=>simp at h
theorem ahm:∀key kl,keyOf au 9 key=ag kl->∃x,key=Value.string x:=λkey kl h=>by obtain⟨s,hs,_⟩:=agX h;exact⟨s,hs⟩
theorem ahn {i j:Nat}(hi:i<15)(b:j<15)(h:wo i=wo j):i=j:=by have a:=(key_ok hi).2.2;rw[h,(key_ok b).2.2]at a;exact(Option.some.inj a).symm
theorem aho {b:Nat}{x:ByteArray}{c:aC}{y:DataW Unit×List MemPlace}(hv:qL c=ag y)(d:∀g,(qM (H:=Unit) b 15).atKey (.string x.data.toList) g=y.1):
  ∃j,j<15/\x.data.toList=wo j/\c=.agg #[.int .i64 (jC j),.slice (ag ⟨b+5+j,0,ay⟩) (jc j).length (jc j).length,.bool (nz j)]:=by
 cases h:sQ x.data.toList 15 with
 |none=>exfalso;have a:=d .nil;have e:=d (.agg []);rw[(BN b x.data.toList _ 15).1,h]at a e;rw[<-e]at a;cases a
 |some j=>obtain⟨f,i⟩:=BO h;have a:=d .nil;rw[(BN b x.data.toList _ 15).1,h]at a;obtain⟨k,l⟩:=y;simp only at a;subst a;exact⟨j,f,i.symm,I9 f hv⟩
theorem ahp {j k:Nat}(b:j<15)(a:k<(jc j).length):(rG j)[2*k+1]?=ag (.func (.func (ago (jc j)[k])) #[] #[]):=by
 rcases j with _|_|_|_|_|_|_|_|_|_|_|_|_|_|_|j
 case succ=>omega
 all_goals
  rcases k with _|_|_|_|k
  all_goals first|rfl|(exfalso;simp[jc]at a;done)|(exfalso;simp[jc]at a;omega)
theorem ahq {c:Cx}{j k:Nat}{K:AK}(f:j<15)(a:(OB c j)[k]?=ag K):∃b,min (k:Int) (((jc j).length:Int) - 1)=(b:Nat)/\b<(jc j).length/\(rG j)[2*b+1]?=ag (.func (.func (ago K)) #[] #[]):=by
 unfold OB at a;by_cases d:j=12
 ·subst d
  rw[gY rfl]at a;obtain rfl:AK.n=K:=(List.mem_replicate.1 (bz a)).2.symm;exact⟨0,by simp[jc];omega,iG,rfl⟩
 ·rw[gZ d]at a
  obtain⟨e,rfl⟩:=aI.1 a;exact⟨k,iE,e,ahp f e⟩
structure TwI (w:ah)(FB:Nat)(op:Int)(nv fv:aC)(tx:ByteArray)(wr:ah)(left:Lit->Bool)(cnt:Nat):Prop where
 rg:wr.ranges (H:=Unit) au 9 qL (FB+4) (w.heap.size+1) 15 (qM FB 15) left cnt
 lf:∀j,j<15->jC j=op->left (.string (wo j))=aB
 below:ax w.heap.size w wr
 cmd:wr.heap[w.heap.size]?=ag (cmd op nv fv tx)
theorem ahr {w w0:ah}{a:Nat}{op:Int}{b c:aC}{tx:ByteArray}(d:w0.ranges (H:=Unit) au 9 qL (a+4) (w.alloc (cmd op b c tx)).heap.size 15 (qM a 15) (Maps.has (qM (H:=Unit) a 15)) (Maps.size (qM (H:=Unit) a 15)))
  (e:(w.alloc (cmd op b c tx)).grownBy w0 ay):TwI w a op b c tx w0 (Maps.has (qM (H:=Unit) a 15)) (Maps.size (qM (H:=Unit) a 15)):=by
 rw[World.EH]at d;refine⟨d,λj f _=>?_,((aJ _ w).alloc (aN _) _).grown e iH (λk g=>by cases g),?_⟩
 ·rw[(BN a (wo j) .nil 15).2]
  have:sQ (wo j) 15=ag j:=(key_ok f).2.2;rw[this];rfl
 ·rw[e.block w.heap.size iH iH]
  exact bn w _
theorem ahs {w wr b:ah}{a:Nat}{op:Int}{c d:aC}{tx:ByteArray}{left:Lit->Bool}{cnt f:Nat}{j:Nat}{x:ByteArray}(h:TwI w a op c d tx wr left cnt)(m:b.ranges (H:=Unit) au 9 qL (a+4) (w.heap.size+1) 15 (qM a 15) (λz=>left z&&!z.sameKey (.string x.data.toList)) f)
  (g:wr.grownBy b (ag (w.heap.size+1)))(n:j<15)(hx:x.data.toList=wo j)(o:jC j≠op):TwI w a op c d tx b (λz=>left z&&!z.sameKey (.string x.data.toList)) f:=by
 refine⟨m,λi hi l=>?_,h.below.grown g h.below.size (λk p=>by have e:=Option.some.inj p;omega),?_⟩
 ·have q:(wo i==wo j)=aT:=by
   rw[iy];intro e;obtain rfl:=ahn hi n e;exact o l
  simp only[h.lf i hi l,bI,Lit.sameKey,hx,q]
  rfl
 ·rw[g.block w.heap.size (aj.1 h.cmd).1 iH]
  exact h.cmd
theorem TwI.alloc {w wr:ah}{a:Nat}{op:Int}{b c:aC}{tx:ByteArray}{left:Lit->Bool}{cnt:Nat}(h:TwI w a op b c tx wr left cnt)(o:Obj):TwI w a op b c tx (wr.alloc o) left cnt:=
 ⟨h.rg.alloc o,h.lf,h.below.alloc h.below.size o,by rw[bJ _ _ _ (aj.1 h.cmd).1];exact h.cmd⟩
theorem write_any {w0 wr:ah}{op:Int}{a b:aC}{c:Cx}{i j t:Nat}(K:AK)(H:ahG w0 a b c)(h:ahH w0 op a b c.tx i j t wr)(hi:i<=c.ns.length)(d:j<=c.fs.length)(e:t<1000):
  aS au (ago K) #[.pointer (ag ⟨w0.heap.size,0,ay⟩)] wr (WP w0 op a b c K i j t):=by
 cases K with
 |n=>exact ag5 H h hi
 |f=>exact ag8 H h d
 |p=>exact ag6 H h hi
 |t=>exact ag7 H h e
theorem Cj.below {v:aC}{n:Nat}{xs:List aC}{w w':ah}(h:Cj v n xs w)(b:ax w.heap.size w w'):Cj v n xs w':=by obtain⟨c,cp,d,e⟩:=h;refine⟨c,cp,d,λf=>?_⟩;obtain⟨g,o,i,j⟩:=e f;refine⟨g,o,i,λk u l=>?_⟩;have a:=j k u l;rw[b.cell (p:=⟨g,o+k,ay⟩) (World.block_lt_of_cell? w _ a)];exact a
theorem ahG.below {w0 b:ah}{d e:aC}{c:Cx}(h:ahG w0 d e c)(a:ax w0.heap.size w0 b):ahG b d e c:=
 ⟨h.env.below a,h.ns.below a,h.fs.below a,h.few,h.szs,h.tx⟩
theorem agY {w0:ah}{a b:aC}{c:Cx}(H:ahG w0 a b c){K:AK}{i j:Nat}:(ahF c K i j).length<=262200:=by
 have d:=H.nm i;have e:=H.tx;have g:(c.nm i).data.toList.length=(c.nm i).size:=iH
 have h:c.tx.data.toList.length=c.tx.size:=iH
 cases K with
 |n=>show(c.nm i).data.toList.length<=_;omega
 |f=>
  show(fmtS _).length<=_;generalize(c.fm j).toNat=f;rcases f with _|_|_|_|_|_|_|_|_|f
  all_goals first|exact aA _|decide
 |p=>have:=agh (c.nm i).data.toList;simp only[ahF,aH,aP,bG];omega
 |t=>have:=agh c.tx.data.toList;simp only[ahF,aH,aP,bG];omega
structure ahI (c:Cx)(jj k i j t:Nat)(o:List UInt8):Prop where
 hk:k<=(OB c jj).length
 ok:okL c (OB c jj) 0 0=okL c ((OB c jj).drop k) i j
 pt:wo jj++OA c (OB c jj) 0 0=o++OA c ((OB c jj).drop k) i j
 si:agm AK.di (OB c jj)=i+agm AK.di ((OB c jj).drop k)
 sj:agm AK.dj (OB c jj)=j+agm AK.dj ((OB c jj).drop k)
 st:agm AK.dt (OB c jj)=t+agm AK.dt ((OB c jj).drop k)
 lo:o.length<=8+k*262201
 bi:i<=c.ns.length
 bj:j<=c.fs.length
 bt:t<=k
theorem agC (c:Cx){jj:Nat}(a:jj<15):(OB c jj).length<=64:=by
 unfold OB;split
 ·rw[bu];omega
 ·have:=zL a;omega
theorem agD {jj:Nat}(a:jj<15):(wo jj).length<=8:=by
 rcases jj with _|_|_|_|_|_|_|_|_|_|_|_|_|_|_|j
 case succ=>omega
 all_goals decide
theorem ahI.start (c:Cx){jj:Nat}(a:jj<15):ahI c jj 0 0 0 0 (wo jj):=
 ⟨aA _,rfl,rfl,(bD _).symm,(bD _).symm,(bD _).symm,agD a,aA _,aA _,aN _⟩
theorem ahI.no {c:Cx}{jj k i j t:Nat}{o:List UInt8}(h:ahI c jj k i j t o){K:AK}(hK:(OB c jj)[k]?=ag K)(hn:PM c K i j=aT):txJ c jj=ay:=by obtain⟨a,rfl⟩:=aI.1 hK;have:=h.ok;rw[aV a]at this;simp only[okL,hn,Bool.false_and]at this;unfold txJ;rw[gZ (by rw[this];simp)]
theorem ahI.yes {c:Cx}{jj k i j t:Nat}{o:List UInt8}(h:ahI c jj k i j t o){K:AK}(hK:(OB c jj)[k]?=ag K)(hy:PM c K i j=aB)(l:(ahF c K i j).length<=262200):ahI c jj (k+1) (i+K.di) (j+K.dj) (t+K.dt) (o++32::ahF c K i j):=by
 obtain⟨d,rfl⟩:=aI.1 hK;obtain⟨m,a,b,e,f,g,n,p,q,r⟩:=h;rw[aV d]at a b e f g;simp only[okL,OA,agm,hy,bI]at a b e f g;refine⟨d,a,by rw[b];simp,iE,iE,iE,by simp only[aH,aP];omega,?_,?_,?_⟩
 ·generalize(OB c jj)[k]=K at hy
  cases K<;>simp only[PM,AK.di,aW,decide_eq_true_eq]at hy⊢<;>omega
 ·generalize(OB c jj)[k]=K at hy
  cases K<;>simp only[PM,AK.dj,aW,decide_eq_true_eq]at hy⊢<;>omega
 ·generalize(OB c jj)[k]=K
  cases K<;>simp only[AK.dt]<;>omega
theorem ahI.fin {c:Cx}{jj k i j t:Nat}{o:List UInt8}(h:ahI c jj k i j t o)(hk:k=(OB c jj).length):txJ c jj=if i=c.ns.length/\j=c.fs.length/\(0<t\/c.tx.size=0)then ag o else ay:=by subst hk;obtain⟨g,a,b,d,e,f,l,m,n,p⟩:=h;rw[List.drop_length]at a b d e f;simp only[okL,OA,agm,Nat.add_zero,bH]at a b d e f;unfold txJ endOk;simp only[a,b,d,e,f,true_and]
def ahJ (m:Int×Cx)(B:Nat)(w:ah)(e:Ending)(w':ah):Prop:=∃s:ByteArray,e=.returned (.tuple #[.string s,.bool (txF m).isSome])/\(∀o,txF m=ag o->s=⟨o.toArray⟩)/\ax B w w'
theorem aht (o p:List UInt8):(⟨o.toArray⟩++(⟨#[32]⟩++⟨p.toArray⟩):ByteArray)=⟨(o++32::p).toArray⟩:=ext_list (by simp[ByteArray.data_append])
theorem ahu {m:Int×Cx}(h:∀j,j<15->jC j≠m.1):txF m=ay:=by
 unfold txF;split
 ·rename_i j a
  exact absurd (agr a).2 (h j (agr a).1)
 ·rfl
theorem agZ {j:Nat}{c:Cx}(a:j<15):txF (jC j,c)=txJ c j:=by unfold txF;rw[agI a]
theorem ahv (w:ah)(n:Nat)(op:Int)(aD aE:aC)(c:Cx)(hF:Forms n w)(H:ahG w aD aE c):
  aS au 16 #[.agg #[.int .i64 op,aD,aE,.string c.tx],.map (ag (n+4))] w (ahJ (op,c) w.heap.size w):=by
 obtain⟨na,u,a5,-⟩:=H.ns;obtain⟨z,A,a6,-⟩:=H.fs;subst a5 a6;have U:=ae hF;have a7:=ae H;have bA:(c.ns.length:Int)<=1000000:=by have:=H.few.1;omega
 have bB:(c.fs.length:Int)<=1000000:=by have:=H.few.2;omega
 clear hF H;go_enter Tryz.func16,Tryz.ntmps16
 go_wp2_with(at_range;refine wpList_range_own _ rfl _ 41 rfl 9 69 (Maps.string_keyed aO) Tryz.underlying41 qL (n+4) 15 (qM n 15) rfl (U.out.own.alloc _) ?_;intro w0 a8 a9 bE)
 go_frame
 rw[World.EH]
 go_loopw [] (λwr=>∃(left:Lit->Bool) (cnt:Nat),TwI w n op (.slice na c.ns.length u) (.slice z c.fs.length A) c.tx wr left cnt) (λwr=>wr.rangeLeft (n+4) (w.heap.size+1))
 case atStart=>exact⟨_,_,ahr a8 a9⟩
 case round=>
  obtain⟨left,cnt,aF⟩:=hrel;have C:=ae aF;clear aF
  go_wp2_with(at_next;go_loud (refine wpList_next_ranges _ rfl _ rfl 9 (Maps.string_keyed aO) (qL (H:=Unit)) Value.string (λv=>v) ahm (λv y _=>⟨v,rfl⟩) (n+4) (w.heap.size+1) 15 _ left cnt rfl C.out.rg ?_ ?_))
  ·intro _ h
   have V:=ae (ahu (m:=(op,c)) λj l e=>absurd (C.out.lf j l e) (by rw[h];simp));go_wp2;go_ret2;unfold ahJ;rw[V.out];exact⟨_,rfl,λo h=>(by cases h),C.out.below⟩
  ·intro x bL kl bM bN a ba ac _ hv ad ai D M aG bb
   obtain⟨aL,bc,ak⟩:=agX ac;obtain rfl:aL=x:=by injection bc with h;exact h.symm
   subst ak;obtain⟨j,l,W,rfl⟩:=aho hv ad;by_cases X:jC j=op
   ·subst X
    obtain rfl:aL=⟨(wo j).toArray⟩:=ext_list (by simpa using W);have N:Hid (ax w.heap.size w a):=C.out.below.grown M C.out.below.size (λk g=>by have e:=Option.some.inj g;omega)
    have J:Hid (a.heap[w.heap.size]?=ag (cmd (jC j) (.slice na c.ns.length u) (.slice z c.fs.length A) c.tx)):=by show _=_;rw[M.block w.heap.size (aj.1 C.out.cmd).1 iH];exact C.out.cmd
    have aM:w.heap.size<a.heap.size:=(aj.1 J.out).1;have bd:=iK J.out 0 (.int .i64 (jC j));have bO:=iK J.out 1 (.slice na c.ns.length u);have bR:=iK J.out 2 (.slice z c.fs.length A);have bS:=iK J.out 3 (.string c.tx);have be:(jC j !=jC j)=aT:=bne_self_eq_false _;clear ac hv ad ai M aG D W;obtain⟨mb,Y⟩:=iC (nz j);rw[Y]at bb⊢;obtain⟨f,bf⟩:∃f,f=Obj.cells #[.int .i64 (jC j),.slice (ag ⟨n+5+j,0,ay⟩) (jc j).length (jc j).length,.bool mb] 69:=⟨_,rfl⟩;have aR:Hid (ahG (a.alloc f) (.slice na c.ns.length u) (.slice z c.fs.length A) c):=a7.out.below (N.out.alloc N.out.size _)
    have bg:Hid (ahH (a.alloc f) (jC j) (.slice na c.ns.length u) (.slice z c.fs.length A) c.tx 0 0 0 ((a.alloc f).alloc (wrt (jC j) (.slice na c.ns.length u) (.slice z c.fs.length A) c.tx 0 0 0))):=
     ⟨(aJ _ _).alloc (aN _) _,bn _ _⟩
    have r:Hid ((a.alloc f).heap[a.heap.size]?=ag f/\(a.alloc f).heap[w.heap.size]?=ag (cmd (jC j) (.slice na c.ns.length u) (.slice z c.fs.length A) c.tx)/\(a.alloc f).heap[n+5+j]?=ag (.cells (rG j) 66)/\(a.alloc f).heap.size=a.heap.size+1/\ax w.heap.size w (a.alloc f)):=by
     have a0:=N.out.alloc N.out.size f;refine⟨bn a _,?_,?_,World.EH _ _,a0⟩
     ·rw[bJ _ _ _ aM];exact J.out
     ·rw[a0.block _ (by have:=U.out.lt;omega)];exact U.out.rows j l
    have bX:=ae l;have bh:=agC c l;have ak:=agD l;by_cases O:j=12
    case' pos=>
     obtain rfl:mb=aB:=by rw[<-Y,O];rfl
     obtain⟨T,P⟩:∃T:Int,min (max ((jc j).length:Int) (c.ns.length:Int)) 64=T:=⟨_,rfl⟩
     have al:Hid (T=((OB c j).length:Int)):=by show _=_;rw[<-P,O];unfold OB;rw[gY rfl,bu,show(jc 12).length=1 from rfl];omega
    case' neg=>
     obtain rfl:mb=aT:=by rw[<-Y];unfold nz;simpa using O
     obtain⟨T,P⟩:∃T:Int,((jc j).length:Int)=T:=⟨_,rfl⟩
     have al:Hid (T=((OB c j).length:Int)):=by show _=_;rw[<-P];unfold OB;rw[gZ O]
     have V:=ae P;clear P
    all_goals
     have a1:=ae bf;clear O bh ak Y;go_wp2;rw[<-a1.out]
     go_loopw [9,42] (λbk am bl=>∃(k i B t:Nat) (o:List UInt8),am=.int .i64 k/\bk=.string ⟨o.toArray⟩/\ahI c j k i B t o/\ahH (a.alloc f) (jC j) (.slice na c.ns.length u) (.slice z c.fs.length A) c.tx i B t bl) (λ_ am _=>(OB c j).length - (intOf am).toNat)
     case atStart=>exact⟨0,0,0,0,_,rfl,rfl,ahI.start c l,bg.out⟩
     case round=>
      obtain⟨k,i,B,t,o,rfl,rfl,g,hw⟩:=hrel;have b0:=ae g;have b4:=ae hw
      have Q:wr.heap[a.heap.size]?=ag f:=by rw[hw.below.block _ (by rw[r.out.2.2.2.1];omega),r.out.1]
      rw[a1.out]at Q;have b5:=iK Q 1 (.slice (ag ⟨n+5+j,0,ay⟩) (jc j).length (jc j).length);have an:=g.lo;have b6:k<=64:=bF g.hk (agC c l);have b7:(o.length:Int)<=16780900:=iE;have b8:(jc j).length<=4:=zL l;have b9:IntKind.i64.wrap (((jc j).length:Int) - 1)=((jc j).length:Int) - 1:=IntWalk.i64_in _ iE;have ca:(0:Int)<=k:=iE;by_cases D:k<(OB c j).length
      ·obtain⟨K,hK⟩:∃K,(OB c j)[k]?=ag K:=⟨_,az D⟩
       obtain⟨Z,cb,cc,ao⟩:=ahq l hK;have bm:(k:Int)<T:=by have:=al.out;omega
       try have bo:(k:Int)<((jc j).length:Int):=by have:=V.out;omega
       have cd:(0:Int)<=Z:=iE;have ce:(Z:Int)<(jc j).length:=iE
       have ap:wr.heap[n+5+j]?=ag (.cells (rG j) 66):=by rw[hw.below.block _ (by rw[r.out.2.2.2.1];have:=U.out.lt;have:=N.out.size;omega)];exact r.out.2.2.1
       have g1:wr.cell? ⟨n+5+j,Z*2+1,ay⟩=ag (.func (.func (ago K)) #[] #[]):=by rw[Nat.mul_comm];exact(af ap (2*Z+1)).trans ao
       have aq:(ahF c K i B).length<=262200:=agY aR.out;have R:=write_any K aR.out hw g.bi g.bj (by have:=g.bt;omega);rw[r.out.2.2.2.1]at R;cases G:PM c K i B with
       |false=>
        have bp:Hid (txF (jC j,c)=ay):=(agZ l).trans (g.no hK G);have I:=R.mono (R':=λe w'=>∃s:ByteArray,e=.returned (.tuple #[.string s,.bool aT])/\ax (a.alloc f).heap.size (a.alloc f) w') λe w' ⟨s,ar,a2,_⟩=>⟨s,by rw[ar,G],a2⟩
        clear hK ao aq R G g hw Q ap D an;cases K
        all_goals
         simp only[ago]at g1 I;have E:=ae I;clear I
         go_wp2_with(first
          |(go_at_call 23;refine E.out.mono ?_;rintro e w3 ⟨s,rfl,d⟩;have F:=ae d;clear d)
          |(go_at_call 25;refine E.out.mono ?_;rintro e w3 ⟨s,rfl,d⟩;have F:=ae d;clear d)
          |(go_at_call 27;refine E.out.mono ?_;rintro e w3 ⟨s,rfl,d⟩;have F:=ae d;clear d)
          |(go_at_call 29;refine E.out.mono ?_;rintro e w3 ⟨s,rfl,d⟩;have F:=ae d;clear d))
         go_ret2;unfold ahJ;rw[bp.out];exact⟨_,rfl,λo h=>(by cases h),r.out.2.2.2.2.trans (F.out.mono r.out.2.2.2.2.size)⟩
       |true=>
        obtain⟨p,hp⟩:=iC (ahF c K i B);have a3:=ae (g.yes hK G aq);rw[hp]at a3 aq
        have I:=R.mono (R':=λe w'=>e=.returned (.tuple #[.string ⟨p.toArray⟩,.bool aB])/\ahH (a.alloc f) (jC j) (.slice na c.ns.length u) (.slice z c.fs.length A) c.tx (i+K.di) (B+K.dj) (t+K.dt) w') λe w' ⟨s,ar,a2,bq⟩=>by obtain⟨br,av⟩:=bq G;exact⟨by rw[ar,G,br,hp],av⟩
        have bs:=ae (aht o p);have cf:(p.length:Int)<=262200:=iE;have aw:=ae D;clear hK ao R G g hw Q ap D an hp;cases K
        all_goals
         simp only[ago]at g1 I;have E:=ae I;clear I
         go_wp2_with(first
          |(go_at_call 23;refine E.out.mono ?_;rintro e w3 ⟨rfl,d⟩;have F:=ae d;clear d)
          |(go_at_call 25;refine E.out.mono ?_;rintro e w3 ⟨rfl,d⟩;have F:=ae d;clear d)
          |(go_at_call 27;refine E.out.mono ?_;rintro e w3 ⟨rfl,d⟩;have F:=ae d;clear d)
          |(go_at_call 29;refine E.out.mono ?_;rintro e w3 ⟨rfl,d⟩;have F:=ae d;clear d))
         go_roundw
         case rel=>exact⟨k+1,_,_,_,_,by go_num,ig _ bs.out,a3.out,F.out⟩
         case measure=>have:=aw.out;simp[intOf];omega
      ·have bm:¬(k:Int)<T:=by have:=al.out;omega
       try have bo:¬(k:Int)<((jc j).length:Int):=by have:=V.out;omega
       obtain⟨b1,e1⟩:=iC (((i:Int)==(c.ns.length:Int)));obtain⟨b2,bv⟩:=iC (((B:Int)==(c.fs.length:Int)));obtain⟨b3,e3⟩:=iC (decide ((0:Int)<t));obtain⟨L,bw⟩:=iC c.tx.toList.isEmpty
       have hx:(i=c.ns.length/\B=c.fs.length/\(0<t\/c.tx.size=0))↔(b1&&b2&&(b3||L))=aB:=by rw[<-e1,<-bv,<-e3,<-bw,UQ];simp only[aW,Bool.or_eq_true,beq_iff_eq,decide_eq_true_eq];omega
       have bx:Hid (txF (jC j,c)=if(b1&&b2&&(b3||L))=aB then ag o else ay):=by
        have h:=(agZ l).trans (g.fin (by have:=g.hk;omega));show _=_;by_cases hp:(b1&&b2&&(b3||L))=aB
        ·rw[gY (hx.2 hp)]at h
         rw[gY hp];exact h
        ·rw[gZ λq=>hp (hx.1 q)]at h
         rw[gZ hp];exact h
       have av:b1=aT\/(b1=aB/\b2=aT)\/(b1=aB/\b2=aB/\b3=aB)\/(b1=aB/\b2=aB/\b3=aT/\L=aB)\/(b1=aB/\b2=aB/\b3=aT/\L=aT):=by cases b1<;>cases b2<;>cases b3<;>cases L<;>simp
       have aa:wr.heap[w.heap.size]?=ag (cmd (jC j) (.slice na c.ns.length u) (.slice z c.fs.length A) c.tx):=by rw[hw.below.block _ (by rw[r.out.2.2.2.1];omega)];exact r.out.2.1
       have S:=hw.wri;rw[r.out.2.2.2.1]at S;have cg:=iK aa 1 (.slice na c.ns.length u);have ch:=iK aa 2 (.slice z c.fs.length A);have ci:=iK aa 3 (.string c.tx);have cj:=iK S 4 (.int .i64 i);have ck:=iK S 5 (.int .i64 B);have cl:=iK S 6 (.int .i64 t);have a4:Hid (ax w.heap.size w wr):=r.out.2.2.2.2.trans (hw.below.mono r.out.2.2.2.2.size);clear g hw Q aa S an D hx;rcases av with rfl|⟨rfl,rfl⟩|⟨rfl,rfl,rfl⟩|⟨rfl,rfl,rfl,rfl⟩|⟨rfl,rfl,rfl,rfl⟩
       all_goals
        try have e5:0<t:=by have:=of_decide_eq_true e3;omega
        try have e5:¬0<t:=by have:=of_decide_eq_false e3;omega
        go_wp2
        go_quiet (fail)
        go_wp2;go_ret2;unfold ahJ;rw[bx.out];refine⟨_,rfl,λo h=>?_,by first|exact a4.out|exact a4.out.trans (below_drewN _ _ _)⟩
        first
         |cases h;done
         |(cases h;rfl)
   ·have be:(jC j !=op)=aB:=by simpa using X
    have ab:=ae (ahs C.out ai M l W X);have bd:=iK ab.out.cmd 0 (.int .i64 op);have aM:w.heap.size<a.heap.size:=(aj.1 ab.out.cmd).1;have aw:=ae D;clear ac hv ad ai M aG D W X;go_wp2;go_roundw
    case rel=>exact⟨_,ba,ab.out.alloc _⟩
    case measure=>rw[(ab.out.alloc _).rg.left_eq,C.out.rg.left_eq];exact aw.out
noncomputable def agn (L:List (Int×Cx)):List UInt8×Int:=
 if L.length>256 then([],7)else if(L.all λm=>(txF m).isSome)=aB then(if(OT L).length>65536 then([],6)else(OT L,0))else([],1)
theorem ahw {T e:TypeId}{B b:Nat}{a:List aC}{w w':ah}(h:bC T e B b a w)(c:ax w.heap.size w w'):bC T e B b a w':=by
 have at_:∀p,bK T e B b p a w->bK T e B b p a w':=λp hp=>by obtain⟨f,v,d,g,i⟩:=hp;exact⟨f,v,by rw[c.block b (aj.1 d).1];exact d,oz g c,i⟩
 rcases h with h|h
 ·exact .inl (at_ _ h)
 ·exact .inr (at_ _ h)
theorem ag0 {w w':ah}{o:Obj}(h:ax (w.alloc o).heap.size (w.alloc o) w'):ax w.heap.size w w':=((aJ _ w).alloc (aN _) o).trans (h.mono iH)
theorem ag1 {w0:ah}{b d:aC}{c:Cx}(H:ahG w0 b d c):∀(a:List AK) (i j:Nat),(OA c a i j).length<=a.length*262201
 |[],_,_=>aA _
 |K::a,i,j=>by have:=ag1 H a (i+K.di) (j+K.dj);have:=agY H (K:=K) (i:=i) (j:=j);simp only[OA,aP,aH];omega
theorem ahx {w0:ah}{b d:aC}{op:Int}{c:Cx}(H:ahG w0 b d c){o:List UInt8}(h:txF (op,c)=ag o):o.length<=16780900:=by
 unfold txF at h;split at h
 ·rename_i j e
  have a:=(agr e).1;unfold txJ at h;split at h
  ·obtain rfl:=Option.some.inj h
   have f:=agD a;have g:=agC c a;have i:=ag1 H (OB c j) 0 0;show(wo j++OA c (OB c j) 0 0).length<=_;rw[aH];omega
  ·cases h
 ·cases h
theorem ag2:∀(A:List (Int×Cx)) (m:Int×Cx),OT (A++[m])=OT A++((txF m).getD []++[10])
 |[],m=>by simp[OT]
 |a::A,m=>by rw[List.cons_append];simp only[OT,ag2 A m,List.append_assoc]
structure PkI (w1:ah)(L:List (Int×Cx))(k:Nat)(wr:ah):Prop where
 below:ax w1.heap.size w1 wr
 nG:bC 51 5 w1.heap.size w1.heap.size (byteCells (OT (L.take k))) wr
 ok:∀m∈L.take k,(txF m).isSome=aB
 len:(OT (L.take k)).length<=k*16780901
theorem ahy (a:ah)(L:List (Int×Cx)):PkI a L 0 (a.alloc (.cells #[.pointer ay,.slice ay 0 0] 51)):=⟨(aJ _ a).alloc (aN _) _,Lib.fresh_isBuilder _ _ a,λ_ h=>(by cases h),aA _⟩
theorem print_any (w:ah)(Y:Option Addr)(ca:Nat)(M:List CM)(Z:Env w)(I:xy (.slice Y M.length ca) M w)(aa:∀m∈M,ahG w m.nv m.fv m.cx):
  aS au 10 #[.slice Y M.length ca] w λe w'=>e=.returned (.tuple #[.string ⟨(agn (M.map λm=>(m.op,m.cx))).1.toArray⟩,.int .i64 (agn (M.map λm=>(m.op,m.cx))).2])/\ax w.heap.size w w':=by
 have a5:=ae Z;have aq:=ae I;have ar:=ae aa;have hn:=I.few.1;obtain⟨L,A⟩:∃L,L=M.map λm=>(m.op,m.cx):=⟨_,rfl⟩
 have ab:L.length=M.length:=by rw[A,List.length_map]
 rw[<-A];have r:=ae (iJ A ab);clear Z I aa A ab;by_cases ac:M.length>256
 ·have d:Hid (agn L=([],7)):=by
   show _=_;unfold agn;rw[gY (by rw[r.out.2];exact ac)]
  have av:(M.length:Int)>256:=iE
  have aw:(256:Int)<M.length:=iE
  go_enter bQ,bP;go_wp2;go_ret2;rw[d.out];exact⟨rfl,aJ _ _⟩
 have av:¬(M.length:Int)>256:=iE
 have aw:¬(256:Int)<M.length:=iE
 have J:Hid (M.length<=256):=by show _<=_;omega
 clear ac;go_enter bQ,bP
 go_wp2_with(go_at_call 13;refine(RN _).mono ?_;rintro e B ⟨rfl,hf⟩;have f:=ae hf;clear hf)
 go_loopw [16] (λK wr=>∃k:Nat,K=.int .i64 k/\k<=M.length/\PkI B L k wr) (λK _=>M.length - (intOf K).toNat)
 case atStart=>exact⟨0,rfl,aA _,ahy B L⟩
 case round=>
  obtain⟨k,rfl,ad,hp⟩:=hrel;have d:=ae hp;have i:Hid (ax w.heap.size w wr):=f.out.below.trans (hp.below.mono f.out.below.size);by_cases j:k<M.length
  ·obtain⟨g,of,rfl,el⟩:=aq.out.el rfl j
   have hm:M[k]∈M:=aQ j;have l:L[k]?=ag (M[k].op,M[k].cx):=(by rw[r.out.1,List.getElem?_map,az j];rfl);have hw:=ar.out _ hm;generalize M[k]=m at el l hw;obtain⟨op,a6,a7,a⟩:=m;obtain⟨N,O,P,Q⟩:=el;simp only at N O P Q l hw
   have q:∀o v,w.cell? ⟨g,o,ay⟩=ag v->wr.cell? ⟨g,o,ay⟩=ag v:=λo v hv=>by rw[i.out.cell (p:=⟨g,o,ay⟩) (World.block_lt_of_cell? w _ hv)];exact hv
   replace N:=q _ _ N;replace O:=q _ _ O;replace P:=q _ _ P;replace Q:=q _ _ Q;obtain⟨na,R,aD,-⟩:=hw.ns;obtain⟨S,T,aE,-⟩:=hw.fs;subst aD aE
   have C:∀o,Hid (aS au 16 #[.agg #[.int .i64 op,.slice na a.ns.length R,.slice S a.fs.length T,.string a.tx],.map (ag (w.heap.size+4))] (wr.alloc o) (ahJ (op,a) (wr.alloc o).heap.size (wr.alloc o))):=λo=>by have aF:=i.out.alloc i.out.size o;have a8:=f.out.size;have aG:=hp.below.alloc hp.below.size o;exact ahv (wr.alloc o) w.heap.size op _ _ a (f.out.forms.below aG iE) (hw.below aF)
   have aL:(k:Int)<(M.length:Int):=iE;have a9:(0:Int)<=k:=iE;have D:L.take (k+1)=L.take k++[(op,a)]:=(by rw[aK,l];rfl);cases b:txF (op,a)with
   |none=>
    have aM:Hid (agn L=([],1)):=by show _=_;unfold agn;rw[gZ (by have:=J.out;have:=r.out.2;omega),gZ];intro h;have:=aX.1 h _ (bz l);rw[b]at this;cases this
    have U:∀o,Hid (aS au 16 #[.agg #[.int .i64 op,.slice na a.ns.length R,.slice S a.fs.length T,.string a.tx],.map (ag (w.heap.size+4))] (wr.alloc o) λe w'=>∃s:ByteArray,e=.returned (.tuple #[.string s,.bool aT])/\ax wr.heap.size wr w'):=λo=>(C o).out.mono λe w' ⟨s,t,E,V⟩=>⟨s,by rw[t,b];rfl,ag0 V⟩
    clear hp q hw C l b D j ad hm
    go_wp2_with(go_at_call 16;refine(U _).out.mono ?_;rintro e w3 ⟨s,rfl,u⟩;have x:=ae u;clear u)
    go_ret2;rw[aM.out];exact⟨rfl,i.out.trans (x.out.mono i.out.size)⟩
   |some c=>
    have ba:=ahx hw b;have aR:=hp.len;have a0:=J.out
    have F:Hid (OT (L.take (k+1))=OT (L.take k)++(c++[10])/\(∀m∈L.take (k+1),(txF m).isSome=aB)/\(OT (L.take k)++(c++[10])).length<=(k+1)*16780901):=by
     refine⟨by rw[D,ag2,b];rfl,?_,iI⟩;rw[D];intro m hm;rcases aZ.1 hm with hm|hm
     ·exact hp.ok m hm
     ·rw[aU.1 hm,b];rfl
    have U:∀o,Hid (aS au 16 #[.agg #[.int .i64 op,.slice na a.ns.length R,.slice S a.fs.length T,.string a.tx],.map (ag (w.heap.size+4))] (wr.alloc o) λe w'=>e=.returned (.tuple #[.string ⟨c.toArray⟩,.bool aB])/\ax wr.heap.size wr w'):=λo=>(C o).out.mono λe w' ⟨s,t,E,V⟩=>⟨by rw[t,E c b,b];rfl,ag0 V⟩
    have a1:Hid ((OT (L.take k)).length+(⟨c.toArray⟩++⟨#[10]⟩:ByteArray).size<=140737488355328):=by show _<=_;simp[ByteArray.size];omega
    have ai:(⟨c.toArray⟩++⟨#[10]⟩:ByteArray).data.toList=c++[10]:=(by simp[ByteArray.data_append]);have a2:=ae ai;have bb:(c.length:Int)<=16780900:=iE;clear hp q hw C l b D hm ai aR a0
    go_wp2_with(first
     |(go_at_call 16;refine(U _).out.mono ?_;rintro e w3 ⟨rfl,u⟩;have x:=ae u;clear u)
     |(go_at_call 17;refine(agl B.heap.size B.heap.size (OT (L.take k)) _ _ (ahw d.out.nG x.out) a1.out (bF d.out.below.size x.out.size)).mono ?_;rw[a2.out];rintro e a3 ⟨rfl,y,ak⟩;have G:=ae (iJ y ak);clear y ak))
    go_roundw
    case rel=>exact⟨k+1,by go_num,j,(d.out.below.trans (x.out.mono d.out.below.size)).trans G.out.2,by rw[F.out.1];exact G.out.1,F.out.2.1,by rw[F.out.1];exact F.out.2.2⟩
    case measure=>simp[intOf];omega
  ·obtain rfl:k=M.length:=iE
   have al:L.take M.length=L:=(by rw[<-r.out.2,aY]);have W:=hp.nG;have X:=hp.ok;have am:=hp.len;rw[al]at W X am;have z:=ae (iJ W hp.below);have a4:=J.out;obtain⟨n,hn⟩:∃n:Nat,(byteCells (OT L)).length=n:=⟨_,rfl⟩;have an:(OT L).length=n:=(by rw[<-hn,byteCells_length]);have bc:(n:Int)<=4295910656:=iE;have bd:(0:Int)<=n:=iE;have ao:=ae hn
   have H:Hid (agn L=if n>65536 then([],6)else(OT L,0)):=by show _=_;unfold agn;rw[gZ (by have:=r.out.2;omega),gY (aX.2 X),an]
   have aL:((M.length:Int)<(M.length:Int))=False:=iH;clear hp hn an al W X am a4 j ad;by_cases ap:n>65536
   ·have t:(n:Int)>65536:=iE
    have E:(65536:Int)<n:=iE;rw[gY ap]at H
    go_wp2_with(go_at_call 18;refine(Tryz.Builder_Len _ _ _ _ z.out.1).mono ?_;rw[ao.out];rintro e w3 ⟨rfl,rfl⟩)
    go_ret2;rw[H.out];exact⟨rfl,i.out⟩
   ·have t:¬(n:Int)>65536:=iE
    have E:¬(65536:Int)<n:=iE;rw[gZ ap]at H
    go_wp2_with(first
     |(go_at_call 18;refine(Tryz.Builder_Len _ _ _ _ z.out.1).mono ?_;rw[ao.out];rintro e w3 ⟨rfl,rfl⟩)
     |(go_at_call 19;refine(Tryz.Builder_String_any _ _ _ _ z.out.1 z.out.2.size).mono ?_;rintro e a3 ⟨rfl,y⟩;have G:=ae y;clear y))
    go_ret2;rw[H.out];exact⟨rfl,f.out.below.trans ((z.out.2.trans G.out).mono f.out.below.size)⟩
theorem ag3 (l:List UInt8)(w:ah)(d:Env w)(hs:l.length<=65536)(o:Option (List (Int×Cx)))(at_ c:Int)(hr:jT tV l=(o,at_,c)):
  aS au 7 #[.string ⟨l.toArray⟩] w λe w'=>∃v,e=.returned (.tuple #[v,.int .i64 at_,.int .i64 c])/\lM w.heap.size v (o.getD []) w'/\ax w.heap.size w w':=by
 refine(parse_any tV ⟨l.toArray⟩ w d (by rw[EL];unfold maxLen;omega) (Ju (D:=65536) ZI _ _ (by simpa using hs))).mono ?_;rintro e w' ⟨f,v,a,b⟩;simp only at a b;rw[hr]at a b;exact⟨v,a,b,f⟩
theorem ahR (L:List (Int×Cx)):(agn L=(OT L,0)/\jT tV (OT L)=(ag L,0,0)/\(OT L).length<=65536)\/∃k:Int,agn L=([],k)/\k≠0:=by
 unfold agn;split
 ·exact .inr ⟨7,rfl,iG⟩
 ·split
  ·rename_i b a
   split
   ·exact .inr ⟨6,rfl,iG⟩
   ·exact .inl ⟨rfl,ahe (aX.1 a) iE iE,iE⟩
  ·exact .inr ⟨1,rfl,iG⟩
theorem xy.below {v:aC}{M:List CM}{w w':ah}(h:xy v M w)(a:ax w.heap.size w w'):xy v M w':=
 ⟨h.row.below a,λm hm=>⟨(h.nms m hm).1.below a,(h.nms m hm).2.below a⟩,h.few⟩
theorem ahz {v:aC}{M:List CM}{w:ah}(a:Env w)(h:xy v M w)(hf:∀m∈M,m.cx.ns.length<=1000/\m.cx.fs.length<=1000/\m.cx.tx.size<=65536/\∀s∈m.cx.ns,s.size<=65536):∀m∈M,ahG w m.nv m.fv m.cx:=λm hm=>by obtain⟨d,e,b,c⟩:=hf m hm;exact⟨a,(h.nms m hm).1,(h.nms m hm).2,⟨iE,iE⟩,c,b⟩
theorem ahS (op:Int)(a b:Option Addr)(n ca m c:Nat)(tx:ByteArray)(w:ah):
  aS au 20 #[.agg #[.int .i64 op,.slice a n ca,.slice b m c,.string tx]] w λe w'=>e=.returned (.agg #[.int .i64 op,.slice a n ca,.slice b m c,.string tx])/\ax w.heap.size w w':=by
 go_enter Tryz.func20,Tryz.ntmps20;go_wp2;refine bodyPost_ret (v:=.agg #[.int .i64 op,.slice a n ca,.slice b m c,.string tx]) (by simp only[results,Tryz.results20];go_simp) rfl ⟨rfl,?_⟩;exact((aJ _ w).alloc (aN _) _).alloc iH _
structure ahK (m:CM):Prop where
 ns:m.cx.ns.length<=80
 fs:m.cx.fs.length<=80
 tx:m.cx.tx.size<=200
 szs:∀s∈m.cx.ns,s.size<=200
def ahM (M:List CM)(w:ah)(e:Ending)(w':ah):Prop:=∃b,e=.returned (.bool b)/\ax w.heap.size w w'/\(b=aB->M.length<=300/\∀m∈M,ahK m)
theorem ahL {M:List CM}{w w':ah}{b:Bool}(h:ax w.heap.size w w')(a:b=aB->M.length<=300/\∀m∈M,ahK m):ahM M w (.returned (.bool b)) w':=⟨b,rfl,h,a⟩
theorem ahT (C:Option Addr)(ca:Nat)(M:List CM)(w:ah)(hA:xy (.slice C M.length ca) M w):
  aS au 9 #[.slice C M.length ca] w (ahM M w):=by
 have o:=ae hA;have hn:(M.length:Int)<=9223372036854775807:=by have:=hA.few.1;omega
 clear hA;go_enter Tryz.func9,Tryz.ntmps9;go_wp2
 go_loopw [3] (λp wr=>∃i:Nat,p=.int .i64 i/\i<=M.length/\(∀m∈M.take i,ahK m)/\rH w wr) (λp _=>M.length - (intOf p).toNat)
 case atStart=>exact⟨0,rfl,aA _,λ_ h=>(by cases h),rH.refl _⟩
 case round=>
  obtain⟨i,rfl,hi,f,hs⟩:=hrel;obtain⟨ap,T⟩:=iD wr;subst T;have c:=ae hs;have D:=ae f;have aq:(0:Int)<=i:=iE
  by_cases b:i<M.length
  ·have U:(i:Int)<(M.length:Int):=iE
   by_cases V:i<300
   ·have W:(i:Int)<300:=iE
    obtain⟨ga,ar,rfl,E⟩:=o.out.el rfl b;obtain⟨na,nb⟩:=o.out.nms _ (aQ b);obtain⟨q,r⟩:=o.out.few.2 _ (aQ b);have G:Hid (M.take (i+1)=M.take i++[M[i]]):=(by show _=_;rw[aK,az b];rfl);generalize M[i]=X at E na nb q r G;obtain⟨op,av,aw,a⟩:=X;obtain⟨-,g,t,H⟩:=E;obtain⟨aD,aE,j,l⟩:=na;obtain⟨aF,aG,u,-⟩:=nb;simp only at j u g t H q r l;subst j u;rw[<-hs.cell]at g t H;generalize I:a.ns.length=N at g q l;generalize hF:a.fs.length=F at t r;have Y:=ae l;have v:=ae I;have Z:=ae hF;have aL:(N:Int)<=9223372036854775807:=iE;have aM:(F:Int)<=9223372036854775807:=iE;have J:=ae b;clear l I hF hs hi f b V;by_cases K:N>80\/F>80\/a.tx.size>200
    ·by_cases y:N>80
     case' pos=>have r1:(80:Int)<N:=iE
     case' neg=>
      have r1:¬(80:Int)<N:=iE;by_cases aR:F>80
      case' pos=>have r2:(80:Int)<F:=iE
      case' neg=>have r2:¬(80:Int)<F:=iE;have aa:(200:Int)<a.tx.size:=iE
     all_goals
      clear K;go_wp2;go_ret;exact ahL c.out.below λh=>(by cases h)
    ·have r1:¬(80:Int)<N:=iE
     have r2:¬(80:Int)<F:=iE;have aa:¬(200:Int)<a.tx.size:=iE;have ab:Hid (N<=80/\F<=80/\a.tx.size<=200):=(by show _/\_;omega);clear K;go_wp2
     go_loopw [4] (λz ac=>∃k:Nat,z=.int .i64 k/\k<=N/\(∀s∈a.ns.take k,s.size<=200)/\rH w ac) (λz _=>N - (intOf z).toNat)
     case atStart=>exact⟨0,rfl,aA _,λ_ h=>(by cases h),by first|exact c.out|exact c.out.drewN _⟩
     case round=>
      obtain⟨k,rfl,L,A,d⟩:=hrel;have e:=ae d;have O:=ae A;rw[c.out.cell,<-d.cell]at g;by_cases P:k<N
      ·obtain⟨g1,ad,rfl,y⟩:=Y.out iE
       have ai:(k:Int)<(N:Int):=iE;have a0:(0:Int)<=k:=iE;have B:k<a.ns.length:=(by have:=v.out;omega);have ak:wr.cell? ⟨g1,ad+k,ay⟩=ag (.string a.ns[k]):=(by rw[d.cell];exact y _ _ (by simp[B]));have Q:Hid (a.ns.take (k+1)=a.ns.take k++[a.ns[k]]):=(by show _=_;rw[aK,az B];rfl);generalize a.ns[k]=n at ak Q;clear y B d L A;by_cases R:n.size>200
       ·have al:(200:Int)<n.size:=iE
        clear R;go_wp2;go_ret;exact ahL e.out.below λh=>(by cases h)
       ·have al:¬(200:Int)<n.size:=iE
        have am:Hid (n.size<=200):=(by show _<=_;omega);clear R;go_wp2;go_roundw
        case rel=>
         refine⟨k+1,by go_num,P,?_,by first|exact e.out|exact e.out.drewN _⟩;rw[Q.out];intro s hs;rcases aZ.1 hs with hs|hs
         ·exact O.out s hs
         ·rw[aU.1 hs];exact am.out
        case measure=>simp[intOf];omega
      ·have ai:((k:Int)<(N:Int))=False:=iI
       have an:Hid (k=N):=(by show _=_;omega);clear d L P A;go_wp2;go_roundw
       case rel=>
        refine⟨i+1,by go_num,J.out,?_,by first|exact e.out|exact e.out.drewN _⟩;rw[G.out];intro m hm;rcases aZ.1 hm with hm|hm
        ·exact D.out m hm
        ·rw[aU.1 hm]
         have j:=ab.out;have u:=v.out;have a1:=Z.out;have S:=O.out;rw[an.out,<-v.out,aY]at S;exact⟨by show a.ns.length<=80;omega,by show a.fs.length<=80;omega,j.2.2,S⟩
       case measure=>have:=J.out;simp[intOf];omega
   ·have W:¬(i:Int)<300:=iE
    have a2:¬(M.length:Int)<=300:=iE;clear hs f hi;go_wp2;go_ret;exact ahL c.out.below λh=>(by simp at h<;>omega)
  ·have U:((i:Int)<(M.length:Int))=False:=iI
   have ao:Hid (∀m∈M,ahK m):=by intro m hm;refine D.out m ?_;rw[List.take_of_length_le iE];exact hm
   clear hs f hi b;go_wp2;go_ret;exact ahL c.out.below λh=>⟨by simp at h<;>omega,ao.out⟩
def ahN (w:ah)(M:List CM)(k:Nat)(v:aC)(wr:ah):Prop:=wr.ownsRow w.heap.size 38 4 v k ((M.take k).flatMap CM.cells)/\ax w.heap.size w wr
theorem ahO (q:Option Addr)(ca:Nat)(M:List CM)(w:ah)(hA:xy (.slice q M.length ca) M w)(hn:M.length<=300):
  aS au 11 #[.slice q M.length ca] w λe w'=>∃d f,e=.returned (.slice d M.length f)/\xy (.slice d M.length f) M w'/\ax w.heap.size w w':=by
 have g:=ae hA;have K:(M.length:Int)<=300:=iE
 clear hA;go_enter Tryz.func11,Tryz.ntmps11;go_wp2
 go_loopw [3,4] (λv l wr=>∃i:Nat,l=.int .i64 i/\i<=M.length/\ahN w M i v wr) (λ_ l _=>M.length - (intOf l).toNat)
 case atStart=>exact⟨0,rfl,aA _,⟨rfl,.inl ⟨rfl,rfl⟩⟩,aJ _ _⟩
 case round=>
  obtain⟨i,rfl,hi,a,b⟩:=hrel;obtain⟨d,f,rfl,-⟩:=zS a;have x:=ae a;have j:=ae b;have L:(0:Int)<=i:=iE
  by_cases k:i<M.length
  ·have y:(i:Int)<(M.length:Int):=iE
   obtain⟨ga,N,rfl,r⟩:=(g.out.below b).el rfl k;obtain⟨na,nb⟩:=g.out.nms _ (aQ k);have s:Hid ((M.take (i+1)).flatMap CM.cells=(M.take i).flatMap CM.cells++(M[i]).cells):=(by show _=_;rw[aK,az k,List.flatMap_append];simp only[Option.toList_some,List.flatMap_cons,List.flatMap_nil,bH]);generalize M[i]=z at r na nb s;obtain⟨op,O,P,Q⟩:=z;obtain⟨A,C,D,E⟩:=r;obtain⟨R,S,c,-⟩:=na;obtain⟨T,U,m,-⟩:=nb;simp only at c m A C D E;subst c m;have V:i<=300:=iE;clear a b hi
   go_wp2_with(first
    |(go_at_call 20;refine(ahS _ _ _ _ _ _ _ _ _).mono ?_;rintro e F ⟨rfl,t⟩;have o:=ae t;clear t)
    |(at_builtin;(refine EG (B:=w.heap.size) (xs:=(M.take i).flatMap CM.cells) (n:=i) Tryz.underlying23 Jf rfl iG iG _ rfl _ _ rfl rfl (oz x.out o.out) _ rfl (Sv _ _ _ _ _ _ _ _) F.heap.size _ rfl rfl ?c1 ?c2 ?_)))
   case c1=>omega
   case c2=>have c:=j.out.size;have m:=o.out.size;omega
   intro v' I hr u J
   have p:Hid (ahN w M (i+1) v' I):=by
    refine⟨?_,?_⟩
    ·rw[s.out];exact hr
    ·have c:=j.out.trans (o.out.mono j.out.size)
     exact c.trans u
   clear hr u J;go_wp2;go_roundw
   case rel=>exact⟨i+1,by go_num,k,p.out⟩
   case measure=>simp[intOf];omega
  ·obtain rfl:i=M.length:=iE
   have y:((M.length:Int)<(M.length:Int))=False:=iH
   have p:Hid (xy (.slice d M.length f) M wr):=by have h:=a;rw[aY]at h;exact⟨EO h,(g.out.below b).nms,g.out.few⟩
   clear a b;go_wp2;go_ret;exact⟨_,_,rfl,p.out,j.out⟩
theorem ahU (d:Option Addr)(ca:Nat)(M:List CM)(w:ah)(A:Env w)(hA:xy (.slice d M.length ca) M w):aS au 4 #[.slice d M.length ca] w λe w'=>e=.returned (.bool aB)/\ax w.heap.size w w':=by
 have h:=ae A;have n:=ae hA;clear A hA;go_enter Tryz.func4,Tryz.ntmps4
 go_wp2_with fail
 refine(EN _ h.out).mono ?_;rintro e U ⟨rfl,B⟩;have o:=ae B;clear B
 go_wp2_with fail
 refine(ahT d ca M U (n.out.below o.out)).mono ?_;rintro e C ⟨b,rfl,D,E⟩;have i:Hid (ax w.heap.size w C):=o.out.trans (D.mono o.out.size);have p:=ae E;clear D E;cases b with
 |false=>go_wp2;go_ret;exact⟨rfl,i.out⟩
 |true=>
  have F:=(p.out rfl).1;have V:=ae (p.out rfl).2;clear p
  go_wp2_with fail
  refine(ahO d ca M C (n.out.below i.out) F).mono ?_;rintro e w3 ⟨W,X,rfl,G,H⟩;have j:Hid (ax w.heap.size w w3):=i.out.trans (H.mono i.out.size);have I:=ae G;clear H G
  go_wp2_with fail
  refine(print_any w3 W X M (h.out.below j.out) I.out (ahz (h.out.below j.out) I.out λm hm=>by obtain⟨a,c,q,Y⟩:=V.out m hm;exact⟨iE,iE,iE,λs hs=>bF (Y s hs) iG⟩)).mono ?_
  rintro e J ⟨rfl,K⟩;have l:Hid (ax w.heap.size w J):=j.out.trans (K.mono j.out.size);clear K;obtain⟨L,r⟩:=iC (M.map (λm=>(m.op,m.cx)));have Z:=ae r;rw[r];clear r;rcases ahR L with⟨a,c,q⟩|⟨k,a,c⟩
  ·rw[a]
   have N:=ae (iJ c q);clear a c q
   go_wp2_with fail
   refine(ag3 (OT L) J (h.out.below l.out) N.out.2 _ _ _ N.out.1).mono ?_;rintro e t ⟨al,rfl,aa,O⟩;have u:Hid (ax w.heap.size w t):=l.out.trans (O.mono l.out.size);obtain⟨f,v,x,P⟩:=aa;simp only[Option.getD_some]at v;obtain⟨y,ct,ab,-⟩:=zS x;subst ab;have ac:Hid (xy (.slice y f.length ct) f t):=Jr x λm hm=>⟨_,P m hm⟩
   have ad:Hid (f.map (λm=>(m.op,m.cx))=M.map (λm=>(m.op,m.cx))):=by show _=_;rw[v,Z.out]
   clear O v x P
   go_wp2_with fail
   refine(ahO d ca M t (n.out.below u.out) F).mono ?_;rintro e g ⟨Q,R,rfl,S,z⟩;have T:Hid (ax w.heap.size w g):=u.out.trans (z.mono u.out.size);have ai:PLift (aS au 8 #[.slice y f.length ct,.slice Q M.length R] g λe w'=>e=.returned (.bool aB)/\ax g.heap.size g w'):=⟨TU y Q ct R f M g (ac.out.below z) S ad.out⟩;clear S z
   go_wp2_with(go_at_call 8;refine(ai.1).mono ?_;rintro e am ⟨rfl,ak⟩)
   go_ret;exact⟨rfl,T.out.trans (ak.mono T.out.size)⟩
  ·rw[a]
   have an:(k !=0)=aB:=(by simpa using c);have ao:((⟨([]:List UInt8).toArray⟩:ByteArray)==⟨#[]⟩)=aB:=rfl;clear a c;go_wp2;go_ret;exact⟨rfl,l.out⟩
