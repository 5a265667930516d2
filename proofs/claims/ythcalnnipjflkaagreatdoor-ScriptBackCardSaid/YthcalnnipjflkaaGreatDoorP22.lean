import Derived.Test.YthcalnnipjflkaaGreatDoorP08
import Derived.Test.YthcalnnipjflkaaGreatDoorP19
import Derived.Test.YthcalnnipjflkaaGreatDoorP21
import Derived.Shelf.Strconv.AtoiErr
import Derived.Lib.SlicesS
open Go.Lib renaming cell_of_heap -> ae, hid -> az, ownBlock_ne -> aP, frozen_of_heap -> aU, hasPrefix -> bz, trimPrefix -> bI, alloc_old -> bJ
open Bool renaming false -> af, true -> aj
open PLift renaming up -> ag
open Array renaming getElem?_eq_some_iff -> ah
open Option renaming some -> au, none -> ax
open Go renaming World -> ay, heap_alloc_new -> aI, Value -> aN, Calls -> aT, wpList_append_own -> bF, Oper -> bK
open Go.Proofs.Tryz renaming prog -> aA, ntmps103 -> aB, func103 -> aC, ntmps120 -> aJ, func120 -> aK, ntmps148 -> aQ, func148 -> aS, ntmps160 -> aX, ntmps134 -> aY, func160 -> aZ, func134 -> bn, ntmps135 -> bu, func135 -> bD, func26 -> bG, ntmps26 -> bP, func22 -> bQ, func28 -> bT, func24 -> bU
open Go.RowKit renaming Below -> aH
open Go.RowKit.Below renaming refl -> aO, heap_setCell -> aW
open Go.World.ownsRow renaming kept -> aV, alloc -> bC, lt -> bH
set_option linter.all false
set_option maxHeartbeats 16000000
set_option maxRecDepth 100000
namespace Go.Proofs.YthcalnnipjflkaaGreatDoor
open Go.RowKit
open Go.Lib hiding intOf
theorem QX (s:ByteArray)(hs:s.size<=1000000):∃(t:ByteArray) (c:Int),t.size<=301/\(c=0->(rD s.data.toList).isSome=aj)/\∀w:ay,lq w->
  aT aA 160 #[.string s] w λr w'=>r=.returned (.tuple #[.string t,.int .i64 c])/\aH w.heap.size w w':=by
 cases hr:rD s.data.toList with
 |none=>
  refine⟨⟨#[]⟩,3,iG,(λh=>by cases h),λw u=>?_⟩;have H:=ag (λW:ay=>zG s hs W);rw[hr]at H;unfold yz at H;clear hr u hs;go_enter aZ,aX
  go_wp2_with(go_at_call 156;refine(H.1 _).mono ?_;rintro e a ⟨b,aa,ab,ac,ad,ai,ak,al,am,an,ao,ap,rfl⟩;have j:=ag b;clear b)
  go_ret2;exact⟨rfl,j.1.trans ((iW _ _).mono j.1.size)⟩
 |some m=>
  obtain⟨k,l,n,o,p,q,v,f7,hf,y,D,E,I,J,K,L,M,z,A,F⟩:=Es hr;obtain⟨sh,f,na,g⟩:=m;simp only at hf z A F;subst hf;have G:=ag (λ(W:ay)=>Iy sh k l n o p q v f7 na g y D E W)
  have N:=ag (show ∀W:ay,aT aA 156 #[.string s] W λe w'=>aH W.heap.size W w'/\e=.returned (.tuple #[.agg #[.int .i64 ((sh:Nat):Int),.int .i64 ((k:Nat):Int),.int .i64 ((l:Nat):Int),.int .i64 ((n:Nat):Int),.int .i64 ((o:Nat):Int),.int .i64 ((p:Nat):Int),.int .i64 ((q:Nat):Int),.int .i64 ((v:Nat):Int),.int .i64 ((f7:Nat):Int),.int .i64 ((na:Nat):Int),.int .u8 ((g:Nat):Int)],.bool aj])from λW=>by have h:=zG s hs W;rw[hr]at h;exact h)
  by_cases B:g=0
  ·obtain⟨ok,O⟩:=iC (xn sh k l n o p q v f7)
   rw[O]at G;have S:((g:Int)==0)=aj:=(by rw[B];rfl);have U:((g:Int)!=0)=af:=(by rw[B];rfl);cases ok with
   |false=>
    refine⟨⟨#[]⟩,13,iG,(λh=>by cases h),λw u=>?_⟩;clear u hs O hr B y D E I J K L M z A F;go_enter aZ,aX
    go_wp2_with(first
     |(go_at_call 156;refine(N.1 _).mono ?_;rintro e a ⟨b,rfl⟩;have j:=ag (b.trans ((iW a (.cells #[.int .i64 ((sh:Nat):Int),.int .i64 ((k:Nat):Int),.int .i64 ((l:Nat):Int),.int .i64 ((n:Nat):Int),.int .i64 ((o:Nat):Int),.int .i64 ((p:Nat):Int),.int .i64 ((q:Nat):Int),.int .i64 ((v:Nat):Int),.int .i64 ((f7:Nat):Int),.int .i64 ((na:Nat):Int),.int .u8 ((g:Nat):Int)] 227)).mono b.size));clear b)
     |(go_at_call 157;refine(G.1 _).mono ?_;rintro e i ⟨rfl,x⟩;have d:=(x.block _ (ah.1 (aI a _)).1).trans (aI a _);have C:=ag (j.1.trans (x.mono j.1.size));clear x d))
    go_ret2;exact⟨rfl,C.1⟩
   |true=>
    have V:=IB sh k l n o p q na y iE iE iE iE iE z;have P:=ag (λ(W:ay) (X:lq W)=>Iw sh k l n o p q v f7 na g A y iE iE iE iE iE z W X);obtain⟨T,Q⟩:=iC (uz sh k l n o p q na);rw[Q]at P V;refine⟨T,0,iE,(λ_=>rfl),λw u=>?_⟩;have Y:=ag u;clear u hs O hr B y D E I J K L M z A F Q;go_enter aZ,aX
    go_wp2_with(first
     |(go_at_call 156;refine(N.1 _).mono ?_;rintro e a ⟨b,rfl⟩;have j:=ag (b.trans ((iW a (.cells #[.int .i64 ((sh:Nat):Int),.int .i64 ((k:Nat):Int),.int .i64 ((l:Nat):Int),.int .i64 ((n:Nat):Int),.int .i64 ((o:Nat):Int),.int .i64 ((p:Nat):Int),.int .i64 ((q:Nat):Int),.int .i64 ((v:Nat):Int),.int .i64 ((f7:Nat):Int),.int .i64 ((na:Nat):Int),.int .u8 ((g:Nat):Int)] 227)).mono b.size));clear b)
     |(go_at_call 157;refine(G.1 _).mono ?_;rintro e i ⟨rfl,x⟩;have d:=(x.block _ (ah.1 (aI a _)).1).trans (aI a _);have aq:=iK d 0 (.int .i64 ((sh:Nat):Int));have ar:=iK d 1 (.int .i64 ((k:Nat):Int));have av:=iK d 2 (.int .i64 ((l:Nat):Int));have aw:=iK d 3 (.int .i64 ((n:Nat):Int));have aD:=iK d 4 (.int .i64 ((o:Nat):Int));have aE:=iK d 5 (.int .i64 ((p:Nat):Int));have aF:=iK d 6 (.int .i64 ((q:Nat):Int));have aG:=iK d 7 (.int .i64 ((v:Nat):Int));have aL:=iK d 8 (.int .i64 ((f7:Nat):Int));have aM:=iK d 9 (.int .i64 ((na:Nat):Int));have aR:=iK d 10 (.int .u8 ((g:Nat):Int));have C:=ag (j.1.trans (x.mono j.1.size));clear x d)
     |(go_at_call 189;refine(P.1 _ (Y.1.below C.1)).mono ?_;rintro e w3 ⟨rfl,R⟩;have Z:=ag (C.1.trans (R.mono C.1.size));clear R))
    go_ret2;exact⟨rfl,Z.1⟩
  ·have S:((g:Int)==0)=af:=iI
   have U:((g:Int)!=0)=aj:=iI;refine⟨⟨#[]⟩,3,iG,(λh=>by cases h),λw u=>?_⟩;clear u hs hr B y D E I J K L M z A F G;go_enter aZ,aX
   go_wp2_with(go_at_call 156;refine(N.1 _).mono ?_;rintro e a ⟨b,rfl⟩;have j:=ag (b.trans ((iW a (.cells #[.int .i64 ((sh:Nat):Int),.int .i64 ((k:Nat):Int),.int .i64 ((l:Nat):Int),.int .i64 ((n:Nat):Int),.int .i64 ((o:Nat):Int),.int .i64 ((p:Nat):Int),.int .i64 ((q:Nat):Int),.int .i64 ((v:Nat):Int),.int .i64 ((f7:Nat):Int),.int .i64 ((na:Nat):Int),.int .u8 ((g:Nat):Int)] 227)).mono b.size));clear b)
   go_ret2;exact⟨rfl,j.1⟩
theorem QY (s:ByteArray)(hs:s.size<=1000000):∃(t:ByteArray) (c:Int),t.size<=301/\∀w:ay,lq w->
  aT aA 134 #[.string s] w λr w'=>r=.returned (.tuple #[.string t,.int .i64 c])/\aH w.heap.size w w':=by
 cases hr:rD s.data.toList with
 |none=>
  refine⟨⟨#[]⟩,3,iG,λw z=>?_⟩;have P:=ag (λW:ay=>zG s hs W);rw[hr]at P;unfold yz at P;clear hr z hs;go_enter bn,aY
  go_wp2_with(go_at_call 156;refine(P.1 _).mono ?_;rintro e a ⟨d,ap,aq,ar,av,aw,aD,aE,aG,aL,aM,aR,rfl⟩;have v:=ag d;clear d)
  go_ret2;exact⟨rfl,v.1.trans ((iW _ _).mono v.1.size)⟩
 |some m=>
  obtain⟨j,k,l,n,o,p,q,f7,hf,B,y,C,D,E,F,G,H,I,J,K⟩:=Es hr;obtain⟨sh,f,na,b⟩:=m;simp only at hf I J K;subst hf;have L:=ag (λ(W:ay)=>Iy sh j k l n o p q f7 na b B y C W)
  have Q:=ag (show ∀W:ay,aT aA 156 #[.string s] W λe w'=>aH W.heap.size W w'/\e=.returned (.tuple #[.agg #[.int .i64 ((sh:Nat):Int),.int .i64 ((j:Nat):Int),.int .i64 ((k:Nat):Int),.int .i64 ((l:Nat):Int),.int .i64 ((n:Nat):Int),.int .i64 ((o:Nat):Int),.int .i64 ((p:Nat):Int),.int .i64 ((q:Nat):Int),.int .i64 ((f7:Nat):Int),.int .i64 ((na:Nat):Int),.int .u8 ((b:Nat):Int)],.bool aj])from λW=>by have h:=zG s hs W;rw[hr]at h;exact h)
  by_cases M:b=0
  ·have ad:((b:Int)==0)=aj:=by rw[M];rfl
   refine⟨⟨#[]⟩,3,iG,λw z=>?_⟩;clear z hs hr M B y C D E F G H I J K L;go_enter bn,aY
   go_wp2_with(go_at_call 156;refine(Q.1 _).mono ?_;rintro e a ⟨d,rfl⟩;have v:=ag (d.trans ((iW a (.cells #[.int .i64 ((sh:Nat):Int),.int .i64 ((j:Nat):Int),.int .i64 ((k:Nat):Int),.int .i64 ((l:Nat):Int),.int .i64 ((n:Nat):Int),.int .i64 ((o:Nat):Int),.int .i64 ((p:Nat):Int),.int .i64 ((q:Nat):Int),.int .i64 ((f7:Nat):Int),.int .i64 ((na:Nat):Int),.int .u8 ((b:Nat):Int)] 227)).mono d.size));clear d)
   go_ret2;exact⟨rfl,v.1⟩
  ·obtain⟨ok,R⟩:=iC (xn sh j k l n o p q f7)
   rw[R]at L;have ad:((b:Int)==0)=af:=iI;cases ok with
   |false=>
    refine⟨⟨#[]⟩,13,iG,λw z=>?_⟩;clear z hs R hr M B y C D E F G H I J K;go_enter bn,aY
    go_wp2_with(first
     |(go_at_call 156;refine(Q.1 _).mono ?_;rintro e a ⟨d,rfl⟩;have v:=ag (d.trans ((iW a (.cells #[.int .i64 ((sh:Nat):Int),.int .i64 ((j:Nat):Int),.int .i64 ((k:Nat):Int),.int .i64 ((l:Nat):Int),.int .i64 ((n:Nat):Int),.int .i64 ((o:Nat):Int),.int .i64 ((p:Nat):Int),.int .i64 ((q:Nat):Int),.int .i64 ((f7:Nat):Int),.int .i64 ((na:Nat):Int),.int .u8 ((b:Nat):Int)] 227)).mono d.size));clear d)
     |(go_at_call 157;refine(L.1 _).mono ?_;rintro e g ⟨rfl,A⟩;have i:=(A.block _ (ah.1 (aI a _)).1).trans (aI a _);have N:=ag (v.1.trans (A.mono v.1.size));clear A i))
    go_ret2;exact⟨rfl,N.1⟩
   |true=>
    have S:=ag (λ(W:ay)=>QG sh j k l n o p q f7 na b B y C D E F G H W);have O:=QF j k l n o p q f7 b B y C D E F G H;obtain⟨x,hx⟩:=iC (yw j k l n o p q f7 b);rw[hx]at S O;obtain⟨T,c,U,V⟩:=QL x na O.1 O.2 I;have ai:=ag V;refine⟨T,c,U,λw z=>?_⟩;have ak:=ag z;clear z hs R hr M B y C D E F G H I J K hx O U V;go_enter bn,aY
    go_upto_region 6 with(first
     |(go_at_call 156;refine(Q.1 _).mono ?_;rintro e a ⟨d,rfl⟩;have v:=ag (d.trans ((iW a (.cells #[.int .i64 ((sh:Nat):Int),.int .i64 ((j:Nat):Int),.int .i64 ((k:Nat):Int),.int .i64 ((l:Nat):Int),.int .i64 ((n:Nat):Int),.int .i64 ((o:Nat):Int),.int .i64 ((p:Nat):Int),.int .i64 ((q:Nat):Int),.int .i64 ((f7:Nat):Int),.int .i64 ((na:Nat):Int),.int .u8 ((b:Nat):Int)] 227)).mono d.size));clear d)
     |(go_at_call 157;refine(L.1 _).mono ?_;rintro e g ⟨rfl,A⟩;have al:=ag A;have i:=(A.block _ (ah.1 (aI a _)).1).trans (aI a _);have a0:=iK i 0 (.int .i64 ((sh:Nat):Int));have a1:=iK i 1 (.int .i64 ((j:Nat):Int));have a2:=iK i 2 (.int .i64 ((k:Nat):Int));have a3:=iK i 3 (.int .i64 ((l:Nat):Int));have a4:=iK i 4 (.int .i64 ((n:Nat):Int));have a5:=iK i 5 (.int .i64 ((o:Nat):Int));have a6:=iK i 6 (.int .i64 ((p:Nat):Int));have a7:=iK i 7 (.int .i64 ((q:Nat):Int));have a8:=iK i 8 (.int .i64 ((f7:Nat):Int));have a9:=iK i 9 (.int .i64 ((na:Nat):Int));have ba:=iK i 10 (.int .u8 ((b:Nat):Int));have N:=ag (v.1.trans (A.mono v.1.size));clear A i))
    have Y:PLift (∀X,aH g.heap.size g X->X.heap[a.heap.size]?=au (.cells #[.int .i64 ((sh:Nat):Int),.int .i64 ((j:Nat):Int),.int .i64 ((k:Nat):Int),.int .i64 ((l:Nat):Int),.int .i64 ((n:Nat):Int),.int .i64 ((o:Nat):Int),.int .i64 ((p:Nat):Int),.int .i64 ((q:Nat):Int),.int .i64 ((f7:Nat):Int),.int .i64 ((na:Nat):Int),.int .u8 ((b:Nat):Int)] 227)/\aH w.heap.size w X/\lq X):=⟨λX Z=>by have y:=(al.1.block _ (ah.1 (aI a _)).1).trans (aI a (.cells #[.int .i64 ((sh:Nat):Int),.int .i64 ((j:Nat):Int),.int .i64 ((k:Nat):Int),.int .i64 ((l:Nat):Int),.int .i64 ((n:Nat):Int),.int .i64 ((o:Nat):Int),.int .i64 ((p:Nat):Int),.int .i64 ((q:Nat):Int),.int .i64 ((f7:Nat):Int),.int .i64 ((na:Nat):Int),.int .u8 ((b:Nat):Int)] 227));have aa:=N.1.trans (Z.mono N.1.size);exact⟨(Z.block _ (ah.1 y).1).trans y,aa,ak.1.below aa⟩⟩
    refine Mix.mM (aF:=?_) iF iF iF iF iF ?_ ?_;rotate_left 1
    ·intro ρ ab
     have u:=ag (λx:iR.Grow ρ=>Y.1 x.w (ab.trans (x.h.mono ab.size)));have bb:=λx:iR.Grow ρ=>show x.w.cell? ⟨a.heap.size,0,ax⟩=au (.int .i64 ((sh:Nat):Int))from ae (u.1 x).1 0
     have bc:=λx:iR.Grow ρ=>show x.w.cell? ⟨a.heap.size,1,ax⟩=au (.int .i64 ((j:Nat):Int))from ae (u.1 x).1 1
     have bd:=λx:iR.Grow ρ=>show x.w.cell? ⟨a.heap.size,2,ax⟩=au (.int .i64 ((k:Nat):Int))from ae (u.1 x).1 2
     have be:=λx:iR.Grow ρ=>show x.w.cell? ⟨a.heap.size,3,ax⟩=au (.int .i64 ((l:Nat):Int))from ae (u.1 x).1 3
     have bf:=λx:iR.Grow ρ=>show x.w.cell? ⟨a.heap.size,4,ax⟩=au (.int .i64 ((n:Nat):Int))from ae (u.1 x).1 4
     have bg:=λx:iR.Grow ρ=>show x.w.cell? ⟨a.heap.size,5,ax⟩=au (.int .i64 ((o:Nat):Int))from ae (u.1 x).1 5
     have bh:=λx:iR.Grow ρ=>show x.w.cell? ⟨a.heap.size,6,ax⟩=au (.int .i64 ((p:Nat):Int))from ae (u.1 x).1 6
     have bi:=λx:iR.Grow ρ=>show x.w.cell? ⟨a.heap.size,7,ax⟩=au (.int .i64 ((q:Nat):Int))from ae (u.1 x).1 7
     have bj:=λx:iR.Grow ρ=>show x.w.cell? ⟨a.heap.size,8,ax⟩=au (.int .i64 ((f7:Nat):Int))from ae (u.1 x).1 8
     have bk:=λx:iR.Grow ρ=>show x.w.cell? ⟨a.heap.size,9,ax⟩=au (.int .i64 ((na:Nat):Int))from ae (u.1 x).1 9
     have bl:=λx:iR.Grow ρ=>show x.w.cell? ⟨a.heap.size,10,ax⟩=au (.int .u8 ((b:Nat):Int))from ae (u.1 x).1 10
     have am:=ag (λx:iR.Grow ρ=>S.1 x.w);have an:=ag (λx:iR.Grow ρ=>ai.1 x.w (u.1 x).2.2)
     repeat(go_big_quiet_step((first
      |(go_at_call 159;with_reducible exact iR.Grow.calls (am.1 _))
      |(go_at_call 158;with_reducible exact iR.Grow.calls (an.1 _)))))
     apply wpQuiet_nil;exact rfl
    intro W ac;have ao:=ag (Y.1 W ac).2.1;clear ac;go_wp2;go_ret2;exact⟨rfl,ao.1⟩
theorem QZ (s:ByteArray)(hs:s.size<=1000000):∃n:Int,∀w:ay,lq w->
  aT aA 135 #[.string s] w λr w'=>r=.returned (.int .i64 n)/\aH w.heap.size w w':=by
 obtain⟨T,c,u,i,l⟩:=QX s hs;have k:=ag l;clear l u;by_cases hc:c=0
 ·subst hc
  by_cases o:(T.toList==s.toList)=aj
  ·have hr:=i rfl
   cases j:rD s.data.toList with
   |none=>rw[j]at hr;cases hr
   |some m=>
    obtain⟨v,x,y,z,A,B,C,f7,hf,_⟩:=Es j;obtain⟨sh,f,na,D⟩:=m;simp only at hf;subst hf
    have E:=ag (show ∀W:ay,aT aA 156 #[.string s] W λe w'=>aH W.heap.size W w'/\e=.returned (.tuple #[.agg #[.int .i64 ((sh:Nat):Int),.int .i64 ((v:Nat):Int),.int .i64 ((x:Nat):Int),.int .i64 ((y:Nat):Int),.int .i64 ((z:Nat):Int),.int .i64 ((A:Nat):Int),.int .i64 ((B:Nat):Int),.int .i64 ((C:Nat):Int),.int .i64 ((f7:Nat):Int),.int .i64 ((na:Nat):Int),.int .u8 ((D:Nat):Int)],.bool aj])from λW=>by have h:=zG s hs W;rw[j]at h;exact h)
    refine⟨(sh:Nat),λw a=>?_⟩;have g:=ag a;clear a hr j hs i;go_enter bD,bu
    go_wp2_with(first
     |(go_at_call 160;refine(k.1 _ g.1).mono ?_;rintro e p ⟨rfl,b⟩;have d:=ag b;clear b)
     |(go_at_call 156;refine(E.1 _).mono ?_;rintro e F ⟨q,rfl⟩;have t:=ag (d.1.trans (q.mono d.1.size));clear q))
    go_ret;exact⟨rfl,t.1.trans ((iW _ _).mono t.1.size)⟩
  ·have o:(T.toList==s.toList)=af:=by simpa using o
   refine⟨0,λw a=>?_⟩;have g:=ag a;clear a hs i;go_enter bD,bu
   go_wp2_with(go_at_call 160;refine(k.1 _ g.1).mono ?_;rintro e p ⟨rfl,b⟩;have d:=ag b;clear b)
   go_ret;exact⟨rfl,d.1⟩
 ·have G:(c==0)=af:=by simpa using hc
  have H:(c !=0)=aj:=by simpa using hc
  refine⟨0,λw a=>?_⟩;have g:=ag a;clear a hs i hc;go_enter bD,bu
  go_wp2_with(go_at_call 160;refine(k.1 _ g.1).mono ?_;rintro e p ⟨rfl,b⟩;have d:=ag b;clear b)
  go_ret;exact⟨rfl,d.1⟩
theorem Q7 (l:List UInt8):bI l [45]=pJ l:=by
 unfold bI pJ;cases l with
 |nil=>simp[bz]
 |cons c r=>
  by_cases h:c=45
  ·subst h;simp[bz]
  ·simp[bz,h,Ne.symm h]
theorem nT.ok {w:ay}(h:nT w):lq w:=λW b=>by
 have a:=h.below b;refine⟨λs hs=>?_,λs=>?_,a.itoa⟩
 ·cases ha:Lib.atoi s.data.toList with
  |some n=>exact(Tryz.strconv_Atoi s n hs ha W).mono λe w' h=>⟨h.1,by obtain⟨t,h⟩:=h.2;rw[h];exact Lib.bytesWorld_below _ _ _⟩
  |none=>obtain⟨ev,c,d⟩:=a.syn;exact(Any.strconv_Atoi_err Tryz.laysC172 s hs ha ev W c d).mono λe w' ⟨N,f,_,_,g⟩=>⟨⟨_,_,f⟩,g⟩
 ·have h:=Tryz.strings_TrimPrefix s ⟨#[45]⟩ W
  rw[show(⟨#[45]⟩:ByteArray).data.toList=[45]from rfl,Q7]at h;exact h.mono λe w' h=>⟨h.1,by rw[h.2];exact aO _ _⟩
structure jM (w:ay):Prop where
 v:nT w
 t:Tabs w
theorem jM.below {w W:ay}(h:jM w)(a:aH w.heap.size w W):jM W:=⟨h.v.below a,h.t.below a⟩
theorem IX (k:Int)(s:ByteArray)(hs:s.size<=70000):∃b:Bool,∀w,jM w->
  aT aA 120 #[.int .i64 k,.string s] w λe w'=>e=.returned (.bool b)/\aH w.heap.size w w':=by
 by_cases i:k=0
 ·subst i
  refine⟨s.toList.isEmpty,λw d=>?_⟩;go_enter aK,aJ;go_wp2;go_ret;exact⟨rfl,aO _ _⟩
 ·have x:(k==0)=af:=by rw[iy];exact i
  by_cases a:k=1
  ·subst a
   refine⟨(s.toList==[116,114,117,101])||(s.toList==[102,97,108,115,101]),λw d=>?_⟩;cases y:(s.toList==[116,114,117,101])
   all_goals
    go_enter aK,aJ;go_wp2;go_ret;exact⟨rfl,aO _ _⟩
  ·have z:(k==1)=af:=by rw[iy];exact a
   by_cases j:k=2
   ·subst j
    refine⟨(kP s.data.toList).isSome,λw d=>?_⟩;have f:=ag (Bj s w (by unfold maxLen;omega));generalize(kP s.data.toList).isSome=b at f⊢;clear d;go_enter aK,aJ
    go_wp2_with(go_at_call 131;refine f.1.mono ?_;rintro e h ⟨rfl,a⟩;have g:=ag a;clear a)
    go_ret;exact⟨rfl,g.1⟩
   ·have A:(k==2)=af:=by rw[iy];exact j
    by_cases l:k=3
    ·subst l
     refine⟨(jF s).2,λw d=>?_⟩;have f:=ag (Qk s hs w d.v.ok);generalize(jF s).2 =b at f⊢;clear d;go_enter aK,aJ
     go_wp2_with(go_at_call 132;refine f.1.mono ?_;rintro e h ⟨rfl,a⟩;have g:=ag a;clear a)
     go_ret;exact⟨rfl,g.1⟩
    ·have B:(k==3)=af:=by rw[iy];exact l
     by_cases m:k=4
     ·subst m
      refine⟨(lV s).isSome,λw d=>?_⟩;have f:=ag (PN s hs w d.v);generalize(lV s).isSome=b at f⊢;clear d;go_enter aK,aJ
      go_wp2_with(go_at_call 133;refine f.1.mono ?_;rintro e h ⟨rfl,a⟩;have g:=ag a;clear a)
      go_ret;exact⟨rfl,g.1⟩
     ·have C:(k==4)=af:=by rw[iy];exact m
      by_cases n:k=5
      ·subst n
       refine⟨(cp s.data.toList).isNone,λw d=>?_⟩;have f:=ag (check_any s w d.t);clear d;cases hc:cp s.data.toList with
       |none=>
        rw[hc]at f;simp only[DR]at f;go_enter aK,aJ
        go_wp2_with(go_at_call 12;refine f.1.mono ?_;rintro e h ⟨rfl,a⟩;have g:=ag a;clear a)
        go_ret;exact⟨rfl,g.1⟩
       |some q=>
        rw[hc]at f;simp only[DR]at f;go_enter aK,aJ
        go_wp2_with(go_at_call 12;refine f.1.mono ?_;rintro e h ⟨rfl,a⟩;have g:=ag a;clear a)
        go_ret;exact⟨rfl,g.1⟩
      ·have D:(k==5)=af:=by rw[iy];exact n
       by_cases o:k=6
       ·subst o
        refine⟨aj,λw d=>?_⟩;go_enter aK,aJ;go_wp2;go_ret;exact⟨rfl,aO _ _⟩
       ·have E:(k==6)=af:=by rw[iy];exact o
        by_cases p:k=7
        ·subst p
         obtain⟨t,c,-,hi⟩:=QY s iE;by_cases hc:c=0
         ·have u:(c==0)=aj:=by rw[hc];rfl
          refine⟨t.toList==s.toList,λw d=>?_⟩;have f:=ag (hi w d.v.ok);clear d hi;go_enter aK,aJ
          go_wp2_with(go_at_call 134;refine f.1.mono ?_;rintro e h ⟨rfl,a⟩;have g:=ag a;clear a)
          go_ret;exact⟨rfl,g.1⟩
         ·have u:(c==0)=af:=by rw[iy];exact hc
          refine⟨af,λw d=>?_⟩;have f:=ag (hi w d.v.ok);clear d hi;go_enter aK,aJ
          go_wp2_with(go_at_call 134;refine f.1.mono ?_;rintro e h ⟨rfl,a⟩;have g:=ag a;clear a)
          go_ret;exact⟨rfl,g.1⟩
        ·have F:(k==7)=af:=by rw[iy];exact p
         by_cases r:k=8
         ·subst r
          obtain⟨c,hi⟩:=QZ s iE;refine⟨c !=0,λw d=>?_⟩;have f:=ag (hi w d.v.ok);clear d hi;go_enter aK,aJ
          go_wp2_with(go_at_call 135;refine f.1.mono ?_;rintro e h ⟨rfl,a⟩;have g:=ag a;clear a)
          go_ret;exact⟨rfl,g.1⟩
         ·have G:(k==8)=af:=by rw[iy];exact r
          refine⟨af,λw d=>?_⟩;go_enter aK,aJ;go_wp2;go_ret;exact⟨rfl,aO _ _⟩
noncomputable def qJ (k:Int)(s:ByteArray):Bool:=if h:s.size<=70000 then Classical.choose (IX k s h)else af
theorem Q8 (k:Int)(s:ByteArray)(hs:s.size<=70000)(w:ay)(a:jM w):
  aT aA 120 #[.int .i64 k,.string s] w λe w'=>e=.returned (.bool (qJ k s))/\aH w.heap.size w w':=by
 unfold qJ;rw[dif_pos hs];exact Classical.choose_spec (IX k s hs) w a
def yR (k:Int)(a b:ByteArray):Int:=
 if(a.toList==b.toList)=aj then 0
 else if k=2 then ET a b
 else if k=3 then Et a b
 else if k=4 then
  (if(a.toList==[110,97,110])=aj then 1
  else if(b.toList==[110,97,110])=aj then -1
  else if(vU a b).1 ≠0 then(vU a b).1
  else if(a.toList==[45,48,112,48])=aj then -1 else 1)
 else Lib.compareBytes a.data.toList b.data.toList
theorem UJ (k:Int)(a b:ByteArray)(ha:a.size<=70000)(n:b.size<=70000)(w:ay)(g:jM w):
  aT aA 148 #[.int .i64 k,.string a,.string b] w λe w'=>e=.returned (.int .i64 (yR k a b))/\aH w.heap.size w w':=by
 obtain⟨R,hR⟩:=iC (yR k a b);rw[hR];unfold yR at hR;cases p:(a.toList==b.toList)with
 |true=>rw[gY p]at hR;subst hR;clear g;go_enter aS,aQ;go_wp2;go_ret;exact⟨rfl,aO _ _⟩
 |false=>
  rw[gZ (by rw[p];decide)]at hR;by_cases j:k=2
  ·subst j
   rw[gY rfl]at hR;have d:=ag (UI a b (by unfold maxLen;omega) (by unfold maxLen;omega) w);rw[hR]at d;clear g hR;go_enter aS,aQ
   go_wp2_with(go_at_call 166;refine d.1.mono ?_;rintro e i ⟨rfl,f⟩;have h:=ag f;clear f)
   go_ret;exact⟨rfl,h.1⟩
  ·have t:(k==2)=af:=by rw[iy];exact j
   rw[gZ j]at hR;by_cases l:k=3
   ·subst l
    rw[gY rfl]at hR;have d:=ag (Q5 a b ha n w g.v.ok);rw[hR]at d;clear g hR;go_enter aS,aQ
    go_wp2_with(go_at_call 167;refine d.1.mono ?_;rintro e i ⟨rfl,f⟩;have h:=ag f;clear f)
    go_ret;exact⟨rfl,h.1⟩
   ·have u:(k==3)=af:=by rw[iy];exact l
    rw[gZ l]at hR;by_cases m:k=4
    ·subst m
     rw[gY rfl]at hR;cases q:(a.toList==[110,97,110])with
     |true=>rw[gY q]at hR;subst hR;clear g;go_enter aS,aQ;go_wp2;go_ret;exact⟨rfl,aO _ _⟩
     |false=>
      rw[gZ (by rw[q];decide)]at hR;cases r:(b.toList==[110,97,110])with
      |true=>rw[gY r]at hR;subst hR;clear g;go_enter aS,aQ;go_wp2;go_ret;exact⟨rfl,aO _ _⟩
      |false=>
       rw[gZ (by rw[r];decide)]at hR;have d:=ag (PO a b ha n w g.v);generalize(vU a b).1 =c at d hR;generalize(vU a b).2 =o at d;clear g;by_cases hc:c=0
       ·subst hc
        rw[gZ iH]at hR;cases s:(a.toList==[45,48,112,48])with
        |true=>
         rw[gY s]at hR;subst hR;go_enter aS,aQ
         go_wp2_with(go_at_call 168;refine d.1.mono ?_;rintro e i ⟨rfl,f⟩;have h:=ag f;clear f)
         go_ret;exact⟨rfl,h.1⟩
        |false=>
         rw[gZ (by rw[s];decide)]at hR;subst hR;go_enter aS,aQ
         go_wp2_with(go_at_call 168;refine d.1.mono ?_;rintro e i ⟨rfl,f⟩;have h:=ag f;clear f)
         go_ret;exact⟨rfl,h.1⟩
       ·have x:(c==0)=af:=by rw[iy];exact hc
        have y:(c !=0)=aj:=(by rw[bne_iff_ne];exact hc);rw[gY hc]at hR;subst hR;go_enter aS,aQ
        go_wp2_with(go_at_call 168;refine d.1.mono ?_;rintro e i ⟨rfl,f⟩;have h:=ag f;clear f)
        go_ret;exact⟨rfl,h.1⟩
    ·have z:(k==4)=af:=by rw[iy];exact m
     rw[gZ m]at hR;have d:=ag (Tryz.strings_Compare a b w);rw[hR]at d;clear g hR;go_enter aS,aQ
     go_wp2_with(go_at_call 169;refine d.1.mono ?_;rintro e i ⟨rfl,rfl⟩)
     go_ret;exact⟨rfl,aO _ _⟩
theorem XZ (w:ay)(v:aN)(n:Nd)(h:UO w v n)(z:n.text.size<=70000)(A:jM w):
  aT aA 103 #[v] w λe w'=>e=.returned (.bool (uK qJ n))/\aH w.heap.size w w':=by
 obtain⟨L,M,rfl,⟨N,O,rfl,B,-⟩,⟨P,Q,rfl,C,-⟩⟩:=h;have D:n.text.size<=maxLen:=by unfold maxLen;omega
 have E:=az (λW (F:aH w.heap.size w W)=>Q8 n.kind n.text z W (A.below F));have o:=az (λw=>UN n.text w D)
 have b:Hid (uK qJ n=if n.kind=9 then decide (n.text.size=0)&&!n.ord&&decide (n.keys.length=0)
  else if n.kind=10 then decide (n.text.size=0)&&decide (n.keys.length=n.items.length)
  else if n.kind=11 then qO n.text.data.toList&&!n.ord&&decide (n.keys.length=0)&&decide (n.items.length=1)
  else !n.ord&&decide (n.keys.length=0)&&decide (n.items.length=0)&&qJ n.kind n.text):=rfl
 clear z A D;have he:=UQ n.text;generalize uK qJ n=r at b;obtain⟨k,t,s,K,G⟩:=n;simp only at b E o he B C⊢;generalize K.length=kl at b B;generalize G.length=j at b C;by_cases g:k=9
 ·have H:(k==9)=aj:=by rw[g];rfl
  by_cases c:t.size=0
  ·have u:t.toList.isEmpty=aj:=by rw[he];simp[c]
   cases s
   ·by_cases d:kl=0
    ·have m:((kl:Int)==0)=aj:=by simp only[beq_iff_eq];omega
     have a:Hid (r=aj):=(by show _=_;rw[b.out];simp[g,d,c]);go_enter aC,aB;go_wp2;go_ret;exact⟨lh a.out.symm,iW _ _⟩
    ·have m:((kl:Int)==0)=af:=by simp only[iy,ne_eq];omega
     have a:Hid (r=af):=(by show _=_;rw[b.out];simp[g,d,c]);go_enter aC,aB;go_wp2;go_ret;exact⟨lh a.out.symm,iW _ _⟩
   ·have a:Hid (r=af):=by show _=_;rw[b.out];simp[g,c]
    go_enter aC,aB;go_wp2;go_ret;exact⟨lh a.out.symm,iW _ _⟩
  ·have u:t.toList.isEmpty=af:=by rw[he];simp[c]
   have a:Hid (r=af):=(by show _=_;rw[b.out];simp[g,c]);go_enter aC,aB;go_wp2;go_ret;exact⟨lh a.out.symm,iW _ _⟩
 ·have H:(k==9)=af:=by simp only[iy,ne_eq];exact g
  by_cases l:k=10
  ·have I:(k==10)=aj:=by rw[l];rfl
   by_cases c:t.size=0
   ·have u:t.toList.isEmpty=aj:=by rw[he];simp[c]
    by_cases d:kl=j
    ·have m:((kl:Int)==j)=aj:=by simp only[beq_iff_eq];omega
     have a:Hid (r=aj):=(by show _=_;rw[b.out];simp[l,d,c]);go_enter aC,aB;go_wp2;go_ret;exact⟨lh a.out.symm,iW _ _⟩
    ·have m:((kl:Int)==j)=af:=by simp only[iy,ne_eq];omega
     have a:Hid (r=af):=(by show _=_;rw[b.out];simp[l,d,c]);go_enter aC,aB;go_wp2;go_ret;exact⟨lh a.out.symm,iW _ _⟩
   ·have u:t.toList.isEmpty=af:=by rw[he];simp[c]
    have a:Hid (r=af):=(by show _=_;rw[b.out];simp[l,c]);go_enter aC,aB;go_wp2;go_ret;exact⟨lh a.out.symm,iW _ _⟩
  ·have I:(k==10)=af:=by simp only[iy,ne_eq];exact l
   by_cases f:k=11
   ·have J:(k==11)=aj:=by rw[f];rfl
    cases i:qO t.data.toList
    ·have a:Hid (r=af):=by show _=_;rw[b.out];simp[f,i]
     go_enter aC,aB
     go_wp2_with(go_at_call 119;refine(o.out _).mono ?_;rintro e p ⟨rfl,rfl⟩;simp only[i])
     go_ret;exact⟨lh a.out.symm,iW _ _⟩
    ·cases s
     ·by_cases d:kl=0
      ·have m:((kl:Int)==0)=aj:=by simp only[beq_iff_eq];omega
       by_cases q:j=1
       ·have x:((j:Int)==1)=aj:=by simp only[beq_iff_eq];omega
        have a:Hid (r=aj):=(by show _=_;rw[b.out];simp[f,i,d,q]);go_enter aC,aB
        go_wp2_with(go_at_call 119;refine(o.out _).mono ?_;rintro e p ⟨rfl,rfl⟩;simp only[i])
        go_ret;exact⟨lh a.out.symm,iW _ _⟩
       ·have x:((j:Int)==1)=af:=by simp only[iy,ne_eq];omega
        have a:Hid (r=af):=(by show _=_;rw[b.out];simp[f,i,d,q]);go_enter aC,aB
        go_wp2_with(go_at_call 119;refine(o.out _).mono ?_;rintro e p ⟨rfl,rfl⟩;simp only[i])
        go_ret;exact⟨lh a.out.symm,iW _ _⟩
      ·have m:((kl:Int)==0)=af:=by simp only[iy,ne_eq];omega
       have a:Hid (r=af):=(by show _=_;rw[b.out];simp[f,i,d]);go_enter aC,aB
       go_wp2_with(go_at_call 119;refine(o.out _).mono ?_;rintro e p ⟨rfl,rfl⟩;simp only[i])
       go_ret;exact⟨lh a.out.symm,iW _ _⟩
     ·have a:Hid (r=af):=by show _=_;rw[b.out];simp[f,i]
      go_enter aC,aB
      go_wp2_with(go_at_call 119;refine(o.out _).mono ?_;rintro e p ⟨rfl,rfl⟩;simp only[i])
      go_ret;exact⟨lh a.out.symm,iW _ _⟩
   ·have J:(k==11)=af:=by simp only[iy,ne_eq];exact f
    cases s
    ·by_cases d:kl=0
     ·have m:((kl:Int)==0)=aj:=by simp only[beq_iff_eq];omega
      by_cases q:j=0
      ·have x:((j:Int)==0)=aj:=by simp only[beq_iff_eq];omega
       have a:Hid (r=qJ k t):=(by show _=_;rw[b.out];simp[g,l,f,d,q]);go_enter aC,aB
       go_wp2_with(go_at_call 120;refine(E.out _ (iW _ _)).mono ?_;rintro e p ⟨rfl,y⟩;replace y:=az y)
       go_ret;exact⟨lh a.out.symm,(iW _ _).trans (y.out.mono (iW _ _).size)⟩
      ·have x:((j:Int)==0)=af:=by simp only[iy,ne_eq];omega
       have a:Hid (r=af):=(by show _=_;rw[b.out];simp[g,l,f,q]);go_enter aC,aB;go_wp2;go_ret;exact⟨lh a.out.symm,iW _ _⟩
     ·have m:((kl:Int)==0)=af:=by simp only[iy,ne_eq];omega
      have a:Hid (r=af):=(by show _=_;rw[b.out];simp[g,l,f,d]);go_enter aC,aB;go_wp2;go_ret;exact⟨lh a.out.symm,iW _ _⟩
    ·have a:Hid (r=af):=by show _=_;rw[b.out];simp[g,l,f]
     go_enter aC,aB;go_wp2;go_ret;exact⟨lh a.out.symm,iW _ _⟩
def cmd (op:Int)(a b:aN)(tx:ByteArray):Obj:=.cells #[.int .i64 op,a,b,.string tx] 38
def qc (B:Nat)(v:aN)(l:List ByteArray)(w:ay):Prop:=w.ownsRow B 9 1 v l.length (l.map Value.string)
def qg (B:Nat)(v:aN)(l:List Int)(w:ay):Prop:=w.ownsRow B 3 1 v l.length (l.map (Value.int .i64))
structure kX (B cb:Nat)(op:Int)(ns:List ByteArray)(fs:List Int)(tx:ByteArray)(w:ay)(nv fv:aN):Prop where
 base:B<=cb
 blk:w.heap[cb]?=au (cmd op nv fv tx)
 names:qc B nv ns w
 fmts:qg B fv fs w
def mP (d:Nat)(w w':ay):Prop:=∀b a T c,w.heap[b]?=au (.cells a T c)->b≠d->T≠9->T≠3->w'.heap[b]?=au (.cells a T c)
theorem mP.trans {a:Nat}{w c d:ay}(h:mP a w c)(k:mP a c d):mP a w d:=λb e T f l g i j=>k b e T f (h b e T f l g i j) g i j
theorem mP.of_below {c:Nat}{w w':ay}(h:aH w.heap.size w w'):mP c w w':=λb d T e a _ _ _=>by rw[h.block b (ah.1 a).1];exact a
theorem BJ {w:ay}{B e n:Nat}{v:aN}{xs:List aN}(h:w.ownsRow B e 1 v n xs){k:Nat}(a:v.ownBlock=au k):∃b,w.heap[k]?=au (.cells b e (0,0)):=by
 rcases h.2 with⟨rfl,_⟩|⟨g,cap,c,rfl,_,d,_⟩
 ·simp[Value.ownBlock]at a
 ·simp only[Value.ownBlock,Option.some.injEq]at a
  subst a;exact⟨c,d⟩
theorem Q9:(Tryz.prog.info? 9).map (λi=>(i.zero,i.size,i.bytes))=au (au (.string ⟨#[]⟩),1,16):=iF
theorem Rf:(Tryz.prog.info? 3).map (λi=>(i.zero,i.size,i.bytes))=au (au (.int .i64 0),1,8):=iF
theorem add_zero' (b o:Nat):(⟨b,0,ax⟩:Addr).add o=⟨b,o,ax⟩:=by unfold Addr.add;split<;>simp_all
theorem IY {ops:Array bK}{rest:List bK}{o:bK}{a:Act}{Q:Exit->Act->ay->Prop}(w:ay)(f:o.guard=ax)(s x:Operand)
  (g:o.op=.call {callee:=.builtin .append,args:=#[s,x],argTypes:=#[35,35]}){B:Nat}{v:aN}{l:List ByteArray}(u:ByteArray)(hs:a.eval s=v)(b:qc B v l w)
  (c:Nat)(hx:a.eval x=.slice (au ⟨w.heap.size,0,ax⟩) 1 c)(A:l.length<=1000000)(i:B<=w.heap.size)
  (h:∀v' w',qc B v' (l++[u]) w'->aH B w w'->(w.alloc (.cells #[.string u] 9)).grownBy w' v.ownBlock->wpList aA ops Q rest (a.put o.dst v') w'):wpList aA ops Q (o::rest) a (w.alloc (.cells #[.string u] 9)):=by
 obtain⟨m,hi,n,p,q⟩:=info_parts Q9;refine bF _ f s x 35 g B 9 m (.string ⟨#[]⟩) 1 16 Tryz.underlying35 hi n p q rfl iG v l.length (l.map Value.string) hs (bC b _) ⟨w.heap.size,0,ax⟩ 1 c [.string u] hx rfl ?_ (by intro z d;simp at d;subst d;rfl) (by unfold maxLen;omega) iE iI ?_
 ·intro j z r
  rw[add_zero',ae (aI w _)];simpa using r
 ·intro v' w' t e _
  refine h v' w' (by unfold qc;rw[List.length_append,List.map_append];exact t) ?_ e;exact((aO B w).alloc i _).grown e iI (λk y=>(bH b k y).1)
theorem Rh {ops:Array bK}{rest:List bK}{o:bK}{a:Act}{Q:Exit->Act->ay->Prop}(w:ay)(f:o.guard=ax)(s x:Operand)
  (g:o.op=.call {callee:=.builtin .append,args:=#[s,x],argTypes:=#[36,36]}){B:Nat}{v:aN}{l:List Int}(u:Int)(hs:a.eval s=v)(b:qg B v l w)
  (c:Nat)(hx:a.eval x=.slice (au ⟨w.heap.size,0,ax⟩) 1 c)(A:l.length<=1000000)(i:B<=w.heap.size)
  (h:∀v' w',qg B v' (l++[u]) w'->aH B w w'->(w.alloc (.cells #[.int .i64 u] 3)).grownBy w' v.ownBlock->wpList aA ops Q rest (a.put o.dst v') w'):wpList aA ops Q (o::rest) a (w.alloc (.cells #[.int .i64 u] 3)):=by
 obtain⟨m,hi,n,p,q⟩:=info_parts Rf;refine bF _ f s x 36 g B 3 m (.int .i64 0) 1 8 Tryz.underlying36 hi n p q rfl iG v l.length (l.map (Value.int .i64)) hs (bC b _) ⟨w.heap.size,0,ax⟩ 1 c [.int .i64 u] hx rfl ?_ (by intro z d;simp at d;subst d;rfl) (by unfold maxLen;omega) iE iI ?_
 ·intro j z r
  rw[add_zero',ae (aI w _)];simpa using r
 ·intro v' w' t e _
  refine h v' w' (by unfold qg;rw[List.length_append,List.map_append];exact t) ?_ e;exact((aO B w).alloc i _).grown e iI (λk y=>(bH b k y).1)
theorem kX.IZ {B a:Nat}{op:Int}{ns:List ByteArray}{fs:List Int}{tx u:ByteArray}{w w':ay}{c d v':aN}(h:kX B a op ns fs tx w c d)(hr:qc B v' (ns++[u]) w')(o:aH B w w')
  (q:(w.alloc (.cells #[.string u] 9)).grownBy w' c.ownBlock):
  kX B a op (ns++[u]) fs tx (w'.setCell ⟨a,1,ax⟩ v') v' d/\aH B w (w'.setCell ⟨a,1,ax⟩ v')/\mP a w (w'.setCell ⟨a,1,ax⟩ v')/\w'.heap[a]?=au (cmd op c d tx):=by
 have r:a<w.heap.size:=(ah.1 h.blk).1;have s:c.ownBlock≠au a:=aP h.names h.blk iG
 have i:∀b,b<w.heap.size->c.ownBlock≠au b->w'.heap[b]?=w.heap[b]?:=λb t hn=>by rw[q.block b iI (λe=>hn e.symm),bJ w _ b t]
 have f:w'.heap[a]?=au (cmd op c d tx):=by rw[i a r s];exact h.blk
 have hf:qg B d fs w':=by
  refine⟨h.fmts.1,?_⟩;rcases h.fmts.2 with hn|⟨g,cap,x,hv,y,j,z⟩
  ·exact .inl hn
  ·refine .inr ⟨g,cap,x,hv,y,?_,z⟩
   have A:g<w.heap.size:=(ah.1 j).1
   rw[i g A (λe=>by obtain⟨C,hc⟩:=BJ h.names e;rw[j]at hc;simp at hc)]
   exact j
 have m:∀{e n:Nat} {v:aN} {xs:List aN},w'.ownsRow B e 1 v n xs->v.ownBlock≠au a->(w'.setCell ⟨a,1,ax⟩ v').ownsRow B e 1 v n xs:=λhr hn=>aV hr (row:=au a) ⟨rfl,rfl,rfl,by simp[World.setCell],λk _ D=>aW _ _ _ _ (λe=>D (by simp[e]))⟩ (.inr hn)
 refine⟨⟨h.base,?_,m hr (aP hr f iG),m hf (aP hf f iG)⟩,o.setCell (p:=⟨a,1,ax⟩) h.base _,?_,f⟩
 ·exact tZ f _
 ·intro b C T G l E F H
  rw[DY _ E,i b (ah.1 l).1 (λe=>by obtain⟨I,hc⟩:=BJ h.names e;rw[l]at hc;simp at hc;exact F hc.2.1)]
  exact l
theorem below_drewN (B:Nat)(w:ay)(k:Nat):aH B w (w.drewN k):=⟨rfl,rfl,rfl,Nat.le_refl _,λ_ _=>rfl⟩
theorem Ri (l:List UInt8)(w:ay)(h:l.length<=maxLen):aT aA 34 #[.string ⟨l.toArray⟩] w λe w'=>e=.returned (.bool (nameB l))/\w=w':=by have:=name_any ⟨l.toArray⟩ w (by simpa[ByteArray.size]using h);simpa using this
theorem Rj (s:ByteArray)(w:ay)(B a:Nat)(op:Int)(ns:List ByteArray)(fs:List Int)(tx:ByteArray)(b i:aN)(h:kX B a op ns fs tx w b i)(v:B<=w.heap.size)(hs:s.size<=maxLen)(hn:ns.length<=1000):
  aT aA 22 #[.pointer (au ⟨a,0,ax⟩),.string s] w λe w'=>e=.returned (.tuple #[.int .i64 (iV 32 s.data.toList).length,.bool (nameB (iV 32 s.data.toList))])/\aH B w w'/\mP a w w'/\
   ∃x y,kX B a op (ns++[⟨(iV 32 s.data.toList).toArray⟩]) fs tx w' x y:=by
 have z:=az hs;have j:(iV 32 s.data.toList).length<=maxLen:=by have:=qE 32 s.data.toList;simp at this;omega
 have A:=az j;have H:=az h;clear h hs j;go_enter bQ,Tryz.ntmps22
 go_wp2_with(go_at_call 31;refine(zg _ _ z.out).mono ?_)
 rintro e D ⟨rfl,n,rfl⟩;have c:kX B a op ns fs tx (w.drewN n) b i:=⟨H.out.base,H.out.blk,H.out.names,H.out.fmts⟩;have C:(w.drewN n).cell? ⟨a,1,ax⟩=au b:=by rw[ae c.blk];rfl
 have k:=az c;clear c
 go_wp2_with(at_builtin;refine IY _ rfl _ _ rfl _ rfl k.out.names _ rfl iE v ?_)
 intro v' l hr m o;obtain⟨p,q,r,d⟩:=k.out.IZ hr m o;have E:l.cell? ⟨a,1,ax⟩=au b:=by rw[ae d];rfl
 have F:=aU d 1
 have hv:∃t u cap,v'=.slice t u cap:=by
  rcases hr.2 with⟨rfl,_⟩|⟨g,cap,G,rfl,_⟩
  ·exact⟨_,_,_,rfl⟩
  ·exact⟨_,_,_,rfl⟩
 obtain⟨t,u,cap,rfl⟩:=hv;have K:=az (iJ p (iJ q r));clear p q r d hr m o C hn
 go_wp2_with(go_at_call 34;refine(Ri _ _ A.out).mono ?_;rintro e w3 ⟨rfl,rfl⟩)
 go_ret2;have f:=K.out;exact⟨rfl,(below_drewN _ _ _).trans f.2.1,f.2.2,_,_,f.1⟩
theorem kX.same {B a:Nat}{op:Int}{ns:List ByteArray}{fs:List Int}{tx:ByteArray}{w w':ay}{c d:aN}(h:kX B a op ns fs tx w c d)(b:aH w.heap.size w w'):kX B a op ns fs tx w' c d:=
 ⟨h.base,by rw[b.block a (ah.1 h.blk).1];exact h.blk,AO h.names b,AO h.fmts b⟩
theorem kX.Rk {B a:Nat}{op:Int}{ns:List ByteArray}{fs:List Int}{tx:ByteArray}{w:ay}{c d:aN}(h:kX B a op ns fs tx w c d)(u:ByteArray):
  kX B a op ns fs u (w.setCell ⟨a,3,ax⟩ (.string u)) c d/\aH B w (w.setCell ⟨a,3,ax⟩ (.string u))/\mP a w (w.setCell ⟨a,3,ax⟩ (.string u)):=by
 have f:∀{e n:Nat} {v:aN} {xs:List aN},w.ownsRow B e 1 v n xs->v.ownBlock≠au a->(w.setCell ⟨a,3,ax⟩ (.string u)).ownsRow B e 1 v n xs:=λhr hn=>aV hr (row:=au a) ⟨rfl,rfl,rfl,by simp[World.setCell],λk _ g=>aW _ _ _ _ (λe=>g (by simp[e]))⟩ (.inr hn)
 refine⟨⟨h.base,tZ h.blk _,f h.names (aP h.names h.blk iG),f h.fmts (aP h.fmts h.blk iG)⟩,(aO B w).setCell (p:=⟨a,3,ax⟩) h.base _,?_⟩;intro b l T m i j o q;rw[DY _ j];exact i
def rE (l:List UInt8):Option (List UInt8×List UInt8):=if l.head?=au 34 then uq (l.drop 1)else ax
def lX (l:List UInt8):List UInt8:=match rE l with|some p=>p.1 |none=>[]
def sK (l:List UInt8):Int:=match rE l with|some p=>(l.length:Int) - p.2.length|none=>0
def nZ (l:List UInt8):Bool:=(rE l).isSome
theorem Eu (l:List UInt8):tY l=.tuple #[.string ⟨(lX l).toArray⟩,.int .i64 (sK l),.bool (nZ l)]:=by
 by_cases h:l.head?=au 34
 ·have e:rE l=uq (l.drop 1):=by unfold rE;rw[gY h]
  unfold lX sK nZ;rw[e];rw[zi h];simp only[tY,List.drop_succ_cons,List.drop_zero];cases uq (l.drop 1)<;>rfl
 ·have e:rE l=ax:=by unfold rE;rw[gZ h]
  unfold lX sK nZ;rw[e,Gp h]
  rfl
theorem Rl (s:ByteArray)(w:ay)(B a:Nat)(op:Int)(ns:List ByteArray)(fs:List Int)(tx:ByteArray)(j k:aN)(h:kX B a op ns fs tx w j k)(l:B<=w.heap.size)(hs:s.size<=35184372088000):
  aT aA 28 #[.pointer (au ⟨a,0,ax⟩),.string s] w λe w'=>e=.returned (.tuple #[.int .i64 (sK s.data.toList),.bool (nZ s.data.toList)])/\aH B w w'/\mP a w w'/\
   ∃m n,kX B a op ns fs ⟨(lX s.data.toList).toArray⟩ w' m n:=by
 have o:=az hs;have H:=az h;have p:=az (Eu s.data.toList);clear h hs;go_enter bT,Tryz.ntmps28
 go_wp2_with(go_at_call 36;refine(DX _ _ o.out).mono ?_)
 rw[p.out];rintro e d ⟨rfl,b⟩;have c:=H.out.same b;obtain⟨f,g,i⟩:=c.Rk ⟨(lX s.data.toList).toArray⟩;have q:d.cell? ⟨a,3,ax⟩=au (.string tx):=by rw[ae c.blk];rfl
 have r:=aU c.blk 3;have K:=az (iJ f (iJ ((b.mono l).trans g) ((mP.of_below b).trans i)));clear f g i b c;go_wp2;go_ret2;exact⟨rfl,K.out.2.1,K.out.2.2,_,_,K.out.1⟩
def qK (t:List UInt8)(ok:Bool):Prop:=∀w,jM w->aT aA 37 #[.string ⟨t.toArray⟩] w λe w'=>∃(v:aN) (c:Int),e=.returned (.tuple #[v,.int .i64 c])/\(c !=0)=!ok/\aH w.heap.size w w'
theorem I4 (s:ByteArray)(w:ay)(B d:Nat)(op:Int)(ns:List ByteArray)(fs:List Int)(tx:ByteArray)(m n:aN)(h:kX B d op ns fs tx w m n)(f:B<=w.heap.size)(hs:s.size<=35184372088000)(g:jM w)(ok:Bool)(i:qK (lX s.data.toList) ok)
  (o:(nZ s.data.toList&&ok)=af):
  aT aA 26 #[.pointer (au ⟨d,0,ax⟩),.string s] w λe w'=>e=.returned (.tuple #[.int .i64 0,.bool af])/\aH B w w'/\mP d w w'/\
   ∃p q,kX B d op ns fs tx w' p q:=by
 have r:=az hs;have H:=az h;have t:=az g;have u:=az i;have x:=az (Eu s.data.toList);clear h hs g i
 have y:(!nZ s.data.toList)=aj\/((!nZ s.data.toList)=af/\ok=af):=by cases e1:nZ s.data.toList<;>cases ok<;>simp_all
 clear o;go_enter bG,bP
 go_wp2_with(go_at_call 36;refine(DX _ _ r.out).mono ?_)
 rw[x.out];rintro e C ⟨rfl,j⟩;have b:=az j;clear j
 go_wp2_with(go_at_call 37;refine(u.out _ (t.out.below b.out)).mono ?_)
 rintro e D ⟨v,c,rfl,hc,k⟩;have l:=az k;clear k;rcases y with z|⟨z,A⟩
 ·clear hc
  go_wp2;go_ret2;have a:=b.out.trans (l.out.mono b.out.size);exact⟨rfl,a.mono f,mP.of_below a,_,_,H.out.same a⟩
 ·subst A
  have E:(c !=0)=aj:=by rw[hc];rfl
  clear hc;go_wp2;go_ret2;have a:=b.out.trans (l.out.mono b.out.size);exact⟨rfl,a.mono f,mP.of_below a,_,_,H.out.same a⟩
theorem Rn (s:ByteArray)(w:ay)(B a:Nat)(op:Int)(ns:List ByteArray)(fs:List Int)(tx:ByteArray)(d C:aN)(h:kX B a op ns fs tx w d C)(k:B<=w.heap.size)(hs:s.size<=35184372088000)(l:jM w)(m:qK (lX s.data.toList) aj)
  (hn:ns.length<=1000)(n:nZ s.data.toList=aj):
  aT aA 26 #[.pointer (au ⟨a,0,ax⟩),.string s] w λe w'=>e=.returned (.tuple #[.int .i64 (sK s.data.toList),.bool aj])/\aH B w w'/\mP a w w'/\
   ∃D E,kX B a op (ns++[⟨(lX s.data.toList).toArray⟩]) fs tx w' D E:=by
 have F:=az hs;have H:=az h;have G:=az l;have I:=az m;have J:=az (Eu s.data.toList);clear h hs l m;go_enter bG,bP
 go_wp2_with(go_at_call 36;refine(DX _ _ F.out).mono ?_)
 rw[J.out,n];rintro e N ⟨rfl,o⟩;have f:=az o;clear o
 go_wp2_with(go_at_call 37;refine(I.out _ (G.out.below f.out)).mono ?_)
 rintro e p ⟨v,c,rfl,hc,q⟩;have O:(c !=0)=af:=by rw[hc];rfl
 have b:=az (f.out.trans (q.mono f.out.size));have i:=az (H.out.same b.out);have L:p.cell? ⟨a,1,ax⟩=au d:=by rw[ae i.out.blk];rfl
 have M:B<=p.heap.size:=Nat.le_trans k b.out.size;clear q hc n
 go_wp2_with(at_builtin;refine IY _ rfl _ _ rfl _ rfl i.out.names _ rfl iE M ?_)
 intro v' w3 hr r t;obtain⟨u,x,y,j⟩:=i.out.IZ hr r t;have P:w3.cell? ⟨a,1,ax⟩=au d:=by rw[ae j];rfl
 have Q:=aU j 1
 have hv:∃z A cap,v'=.slice z A cap:=by
  rcases hr.2 with⟨rfl,_⟩|⟨g,cap,R,rfl,_⟩
  ·exact⟨_,_,_,rfl⟩
  ·exact⟨_,_,_,rfl⟩
 obtain⟨z,A,cap,rfl⟩:=hv;have K:=az (iJ u (iJ ((b.out.mono k).trans x) ((mP.of_below b.out).trans y)));clear u x y j hr r t L hn;go_wp2;go_ret2;exact⟨rfl,K.out.2.1,K.out.2.2,_,_,K.out.1⟩
def fmtS:Nat->List UInt8
 |0=>[106,115,111,110]
 |1=>[121,97,109,108]
 |2=>[116,111,109,108]
 |3=>[105,110,105]
 |4=>[115,101,120,112]
 |5=>[98,101,110,99,111,100,101]
 |6=>[99,98,111,114]
 |7=>[112,108,105,115,116]
 |8=>[116,97,98,108,101]
 |_=>[]
def uC (w:ay):Prop:=∀i,i<9->w.cell? ⟨0,i,ax⟩=au (.string ⟨(fmtS i).toArray⟩)
theorem uC.lt {w:ay}(h:uC w):0<w.heap.size:=World.block_lt_of_cell? w _ (h 0 iG)
theorem uC.below {w w':ay}(h:uC w)(a:aH w.heap.size w w'):uC w':=λi hi=>by rw[a.cell (p:=⟨0,i,ax⟩) h.lt];exact h i hi
def vZ (l:List UInt8):Nat->Nat->Option Nat
 |0,_=>ax
 |n+1,k=>if fmtS k=l then au k else vZ l n (k+1)
def rF (l:List UInt8):Option Nat:=vZ l 9 0
theorem Ro {l:List UInt8}{k:Nat}(a:k<9)(h:rF l=vZ l (9 - k) k)(e:fmtS k=l):rF l=au k:=by rw[h];obtain⟨n,hn⟩:∃n,9 - k=n+1:=⟨8 - k,iE⟩;rw[hn];unfold vZ;rw[gY e]
theorem Rq {l:List UInt8}{k:Nat}(a:k<9)(h:rF l=vZ l (9 - k) k)(e:fmtS k≠l):rF l=vZ l (9 - (k+1)) (k+1):=by
 rw[h];obtain⟨n,hn⟩:∃n,9 - k=n+1:=⟨8 - k,iE⟩;rw[hn,show 9 - (k+1)=n by omega];conv=>lhs;unfold vZ
 rw[gZ e]
def Rt (B c:Nat)(op:Int)(ns:List ByteArray)(fs:List Int)(tx:ByteArray)(l:List UInt8)(o:Option Nat)(e:Ending)(w':ay):Prop:=
 match o with
 |some k=>e=.returned (.tuple #[.int .i64 l.length,.bool aj])/\∃a b,kX B c op ns (fs++[(k:Int)]) tx w' a b
 |none=>e=.returned (.tuple #[.int .i64 0,.bool af])/\∃a b,kX B c op ns fs tx w' a b
theorem kX.Ru {B a:Nat}{op:Int}{ns:List ByteArray}{fs:List Int}{tx:ByteArray}{u:Int}{w w':ay}{d c v':aN}(h:kX B a op ns fs tx w d c)(hr:qg B v' (fs++[u]) w')(o:aH B w w')
  (q:(w.alloc (.cells #[.int .i64 u] 3)).grownBy w' c.ownBlock):
  kX B a op ns (fs++[u]) tx (w'.setCell ⟨a,2,ax⟩ v') d v'/\aH B w (w'.setCell ⟨a,2,ax⟩ v')/\mP a w (w'.setCell ⟨a,2,ax⟩ v')/\w'.heap[a]?=au (cmd op d c tx):=by
 have r:a<w.heap.size:=(ah.1 h.blk).1;have s:c.ownBlock≠au a:=aP h.fmts h.blk iG
 have i:∀b,b<w.heap.size->c.ownBlock≠au b->w'.heap[b]?=w.heap[b]?:=λb t hn=>by rw[q.block b iI (λe=>hn e.symm),bJ w _ b t]
 have f:w'.heap[a]?=au (cmd op d c tx):=by rw[i a r s];exact h.blk
 have hf:qc B d ns w':=by
  refine⟨h.names.1,?_⟩;rcases h.names.2 with hn|⟨g,cap,x,hv,y,j,z⟩
  ·exact .inl hn
  ·refine .inr ⟨g,cap,x,hv,y,?_,z⟩
   have A:g<w.heap.size:=(ah.1 j).1
   rw[i g A (λe=>by obtain⟨C,hc⟩:=BJ h.fmts e;rw[j]at hc;simp at hc)]
   exact j
 have m:∀{e n:Nat} {v:aN} {xs:List aN},w'.ownsRow B e 1 v n xs->v.ownBlock≠au a->(w'.setCell ⟨a,2,ax⟩ v').ownsRow B e 1 v n xs:=λhr hn=>aV hr (row:=au a) ⟨rfl,rfl,rfl,by simp[World.setCell],λk _ D=>aW _ _ _ _ (λe=>D (by simp[e]))⟩ (.inr hn)
 refine⟨⟨h.base,?_,m hf (aP hf f iG),m hr (aP hr f iG)⟩,o.setCell (p:=⟨a,2,ax⟩) h.base _,?_,f⟩
 ·exact tZ f _
 ·intro b C T G l E H F
  rw[DY _ E,i b (ah.1 l).1 (λe=>by obtain⟨I,hc⟩:=BJ h.fmts e;rw[l]at hc;simp at hc;exact F hc.2.1)]
  exact l
theorem Rw (s:ByteArray)(w:ay)(B a:Nat)(op:Int)(ns:List ByteArray)(fs:List Int)(tx:ByteArray)(o d:aN)(h:kX B a op ns fs tx w o d)(C:B<=w.heap.size)(hs:s.size<=maxLen)(hn:fs.length<=1000)(hF:uC w):
  aT aA 24 #[.pointer (au ⟨a,0,ax⟩),.string s] w λe w'=>aH B w w'/\mP a w w'/\
   Rt B a op ns fs tx (iV 32 s.data.toList) (rF (iV 32 s.data.toList)) e w':=by
 have D:=az hs;have H:=az h;have p:=az hF;clear h hs hF;go_enter bU,Tryz.ntmps24
 go_wp2_with(go_at_call 31;refine(zg _ _ D.out).mono ?_)
 rintro e I ⟨rfl,n,rfl⟩;have E:Hid (uC (w.drewN n)):=p.out;have f:Hid (kX B a op ns fs tx (w.drewN n) o d):=⟨H.out.base,H.out.blk,H.out.names,H.out.fmts⟩;clear p H;go_wp2
 go_loop [10] (λi=>∃k:Nat,k<=9/\i=.int .i64 k/\rF (iV 32 s.data.toList)=vZ (iV 32 s.data.toList) (9 - k) k) (λi=>9 - (intOf i).toNat)
 case atStart=>exact⟨0,iE,rfl,rfl⟩
 case round=>
  obtain⟨k,j,rfl,hf⟩:=hrel;by_cases l:k<9
  ·have q:=E.out k l
   have F:(k:Int)<9:=iE;by_cases he:fmtS k=iV 32 s.data.toList
   ·have c:=az (Ro l hf he)
    have e1:(⟨(fmtS k).toArray⟩:ByteArray)=⟨(iV 32 s.data.toList).toArray⟩:=(by rw[he]);have G:(w.drewN n).cell? ⟨a,2,ax⟩=au d:=(by rw[ae f.out.blk];rfl);rw[e1]at q;clear hf he e1
    go_wp2_with(at_builtin;refine Rh _ rfl _ _ rfl (k:Int) rfl f.out.fmts _ rfl iE C ?_)
    intro v' r hr t u;obtain⟨v,x,y,m⟩:=f.out.Ru hr t u;have J:r.cell? ⟨a,2,ax⟩=au d:=(by rw[ae m];rfl);have L:=aU m 2
    have hv:∃z A cap,v'=.slice z A cap:=by
     rcases hr.2 with⟨rfl,_⟩|⟨g,cap,M,rfl,_⟩
     ·exact⟨_,_,_,rfl⟩
     ·exact⟨_,_,_,rfl⟩
    obtain⟨z,A,cap,rfl⟩:=hv;have K:=az (iJ v (iJ x y));clear v x y m hr t u G hn q;go_wp2;go_ret2;have j:=K.out;refine⟨(below_drewN _ _ _).trans j.2.1,j.2.2,?_⟩;rw[c.out];exact⟨rfl,_,_,j.1⟩
   ·have c:=az (Rq l hf he)
    have e1:¬(⟨(fmtS k).toArray⟩:ByteArray)=⟨(iV 32 s.data.toList).toArray⟩:=λe=>he (by simpa using ig (λb:ByteArray=>b.data.toList) e)
    have N:((⟨(fmtS k).toArray⟩:ByteArray).toList==(⟨(iV 32 s.data.toList).toArray⟩:ByteArray).toList)=af:=(Lib.bytes_beq_false_iff _ _).2 e1;have O:(fmtS k==iV 32 s.data.toList)=af:=(by simpa using he);clear hf;go_wp2;go_round
    case rel=>exact⟨k+1,iE,by go_num,c.out⟩
    case measure=>simp[intOf];omega
  ·have c:Hid (rF (iV 32 s.data.toList)=ax):=by
    have e:k=9:=iE;subst e;exact hf
   have F:¬(k:Int)<9:=iE;clear hf;go_wp2;go_ret2;refine⟨(below_drewN _ _ _),(λ_ _ _ _ h _ _ _=>h),?_⟩;rw[c.out];exact⟨rfl,_,_,f.out⟩
inductive AK where
 |n|f|p|t
def jc:Nat->List AK
 |0=>[.n,.f,.t]
 |1=>[.n]
 |2=>[.n,.f,.n]
 |3=>[.n,.n]
 |4=>[.n,.f]
 |5=>[.n,.f]
 |6=>[.n,.p]
 |7=>[.n,.p,.t]
 |8=>[.n,.p,.t]
 |9=>[.n,.p]
 |10=>[.n,.n]
 |11=>[.n,.n,.n,.n]
 |12=>[.n]
 |13=>[.n,.t]
 |14=>[.n]
 |_=>[]
def jC:Nat->Int
 |0=>1
 |1=>2
 |2=>3
 |3=>4
 |4=>5
 |5=>6
 |6=>7
 |7=>8
 |8=>9
 |9=>10
 |10=>11
 |11=>12
 |12=>13
 |13=>14
 |14=>15
 |_=>0
def sQ (l:List UInt8):Nat->Option Nat
 |0=>ax
 |k+1=>if wo k=l then au k else sQ l k
def wu (l:List UInt8):Option Nat:=sQ l 15
theorem Ew {H:Type}(B:Nat):∀k,Maps.IsMap (qM (H:=H) B k)
 |0=>⟨_,rfl⟩
 |k+1=>by obtain⟨es,h⟩:=Ew (H:=H) B k;exact⟨_,by unfold qM;rw[h];rfl⟩
theorem BN {H:Type}(B:Nat)(l:List UInt8)(a:DataW H):∀k,(qM B k).atKey (.string l) a=(match sQ l k with|some j=>mQ B j|none=>a)/\Maps.has (qM (H:=H) B k) (.string l)=(sQ l k).isSome
 |0=>⟨rfl,rfl⟩
 |k+1=>by
  obtain⟨c,d⟩:=BN B l a k;unfold qM sQ;by_cases e:wo k=l
  ·rw[gY e,<-e]
   exact⟨Maps.atKey_put_same (Ew B k) (show WideAt.IsKeyLit (.string _)from trivial) _ _,Maps.has_put_same (Ew B k) (show WideAt.IsKeyLit (.string _)from trivial) _⟩
  ·rw[gZ e]
   have b:(Lit.string l)≠.string (wo k):=λh=>e (by injection h with h;exact h.symm)
   exact⟨(Maps.atKey_put_other b _ _).trans c,(Maps.has_put_other b _).trans d⟩
theorem BO {l:List UInt8}{j:Nat}:∀{k:Nat},sQ l k=au j->j<k/\wo j=l
 |0,h=>by cases h
 |k+1,h=>by
  unfold sQ at h;by_cases e:wo k=l
  ·rw[gY e]at h
   obtain rfl:k=j:=by simpa using h
   exact⟨iE,e⟩
  ·rw[gZ e]at h
   have:=BO h;exact⟨iE,this.2⟩
structure Forms (FB:Nat)(w:ay):Prop where
 own:w.ownsMap (H:=Unit) aA 9 qL (FB+4) 15 (qM FB 15)
 rows:∀j,j<15->w.heap[FB+5+j]?=au (.cells (rG j) 66)
theorem FI.forms {w0 w:ay}(h:FI w0 w 15):Forms w0.heap.size w:=⟨h.own,h.rows⟩
theorem Forms.lt {a:Nat}{w:ay}(h:Forms a w):a+19<w.heap.size:=(ah.1 (h.rows 14 iG)).1
theorem Forms.below {a B:Nat}{w w':ay}(h:Forms a w)(b:aH B w w')(g:a+20<=B):Forms a w':=by
 refine⟨?_,λj c=>?_⟩
 ·obtain⟨es,d,e,f⟩:=h.own
  exact⟨es,d,by rw[b.block (a+4) iE];exact e,f⟩
 ·rw[b.block (a+5+j) iE];exact h.rows j c
structure Cx where
 ns:List ByteArray
 fs:List Int
 tx:ByteArray
def oV (pp:List UInt8->Bool):AK->List UInt8->Bool
 |.n,r=>nameB (iV 32 r)
 |.f,r=>(rF (iV 32 r)).isSome
 |.p,r=>nZ r&&pp (lX r)
 |.t,r=>nZ r
def ny (pp:List UInt8->Bool):AK->List UInt8->Int
 |.n,r=>(iV 32 r).length
 |.f,r=>if(rF (iV 32 r)).isSome then((iV 32 r).length:Int)else 0
 |.p,r=>if nZ r&&pp (lX r)then sK r else 0
 |.t,r=>sK r
def kY (pp:List UInt8->Bool):AK->List UInt8->Cx->Cx
 |.n,r,c=>{c with ns:=c.ns++[⟨(iV 32 r).toArray⟩]}
 |.f,r,c=>match rF (iV 32 r)with|some k=>{c with fs:=c.fs++[(k:Int)]}|none=>c
 |.p,r,c=>if nZ r&&pp (lX r)then {c with ns:=c.ns++[⟨(lX r).toArray⟩]}else c
 |.t,r,c=>{c with tx:=⟨(lX r).toArray⟩}
def sS:AK->Nat
 |.n=>22
 |.f=>24
 |.p=>26
 |.t=>28
structure Env (w:ay):Prop where
 lib:jM w
 fmt:uC w
theorem Env.tabs {w:ay}(h:Env w):Tabs w:=h.lib.t
theorem Env.below {w w':ay}(h:Env w)(a:aH w.heap.size w w'):Env w':=⟨h.lib.below a,h.fmt.below a⟩
theorem Env.below' {w w':ay}(h:Env w)(a:aH w.heap.size w w')(_:0<w.heap.size)(_:1<w.heap.size)(_:2<w.heap.size):Env w':=h.below a
def zJ (B a:Nat)(op:Int)(c:Cx)(w:ay):Prop:=∃b d,kX B a op c.ns c.fs c.tx w b d
def RP (pp:List UInt8->Bool)(K:AK)(r:List UInt8)(B a:Nat)(op:Int)(c:Cx)(w:ay)(v:aN)(w':ay):Prop:=
 v=.tuple #[.int .i64 (ny pp K r),.bool (oV pp K r)]/\aH B w w'/\mP a w w'/\zJ B a op (kY pp K r c) w'
theorem Ey (pp:List UInt8->Bool)(K:AK)(s:ByteArray)(w:ay)(B i:Nat)(op:Int)(c:Cx)(h:zJ B i op c w)(j:B<=w.heap.size)(hs:s.size<=35184372088000)(r:Env w)(hn:c.ns.length<=1000)(hf:c.fs.length<=1000)
  (x:K=.p->nZ s.data.toList=aj->qK (lX s.data.toList) (pp (lX s.data.toList)))(y:K=.p->nZ s.data.toList=af->∃ok,qK (lX s.data.toList) ok):
  aT aA (sS K) #[.pointer (au ⟨i,0,ax⟩),.string s] w λe w'=>∃v,e=.returned v/\RP pp K s.data.toList B i op c w v w':=by
 obtain⟨l,m,h⟩:=h;have u:s.size<=maxLen:=by unfold maxLen;omega
 cases K with
 |n=>exact(Rj s w B i op c.ns c.fs c.tx l m h j u hn).mono λe w' ⟨b,d,g,a⟩=>⟨_,b,rfl,d,g,a⟩
 |t=>exact(Rl s w B i op c.ns c.fs c.tx l m h j hs).mono λe w' ⟨b,d,g,a⟩=>⟨_,b,rfl,d,g,a⟩
 |f=>
  refine(Rw s w B i op c.ns c.fs c.tx l m h j u hf r.fmt).mono λe w' ⟨d,g,a⟩=>?_
  cases hi:rF (iV 32 s.data.toList)with
  |none=>
   rw[hi]at a;refine⟨_,a.1,?_,d,g,?_⟩
   ·simp only[ny,oV,hi];rfl
   ·simp only[kY,hi];exact a.2
  |some k=>
   rw[hi]at a;refine⟨_,a.1,?_,d,g,?_⟩
   ·simp only[ny,oV,hi];rfl
   ·simp only[kY,hi];exact a.2
 |p=>
  cases b:nZ s.data.toList with
  |false=>
   obtain⟨ok,hp⟩:=y rfl b;refine(I4 s w B i op c.ns c.fs c.tx l m h j hs r.lib ok hp (by rw[b];rfl)).mono λe w' ⟨q,d,g,a⟩=>⟨_,q,?_,d,g,?_⟩
   ·simp only[ny,oV,b];rfl
   ·simp only[kY,b];exact a
  |true=>
   have hp:=x rfl b;cases o:pp (lX s.data.toList)with
   |false=>
    rw[o]at hp;refine(I4 s w B i op c.ns c.fs c.tx l m h j hs r.lib af hp (by rw[b];rfl)).mono λe w' ⟨q,d,g,a⟩=>⟨_,q,?_,d,g,?_⟩
    ·simp only[ny,oV,b,o];rfl
    ·simp only[kY,b,o];exact a
   |true=>
    rw[o]at hp;refine(Rn s w B i op c.ns c.fs c.tx l m h j hs r.lib hp hn b).mono λe w' ⟨q,d,g,a⟩=>⟨_,q,?_,d,g,?_⟩
    ·simp only[ny,oV,b,o];rfl
    ·simp only[kY,b,o];exact a
theorem Ez {j k:Nat}(b:j<15)(a:k<(jc j).length):(rG j)[2*k]?=au (.func (.func (sS (jc j)[k])) #[] #[]):=by
 rcases j with _|_|_|_|_|_|_|_|_|_|_|_|_|_|_|j
 case succ=>omega
 all_goals
  rcases k with _|_|_|_|k
  all_goals first|rfl|(exfalso;simp[jc]at a;done)|(exfalso;simp[jc]at a;omega)
theorem EC (K:AK):∀args w,(callFunc (sS K) args).run aA w=.ok (.enter (sS K) args) w:=by
 cases K
 ·exact enters_of bQ iF rfl
 ·exact enters_of bU iF rfl
 ·exact enters_of bG iF rfl
 ·exact enters_of bT iF rfl
structure After (pp:List UInt8->Bool)(l:List UInt8)(w wr:ay)(FB j:Nat)(c:Cx)(W:ay):Prop where
 below:aH w.heap.size w W
 keep:mP (w.heap.size+1+1) wr W
 cm:zJ w.heap.size (w.heap.size+1+1) (jC j) c W
theorem After.drewN {pp:List UInt8->Bool}{l:List UInt8}{w wr:ay}{b j:Nat}{c:Cx}{W:ay}(h:After pp l w wr b j c W)(k:Nat):After pp l w wr b j c (W.drewN k):=by obtain⟨d,e,a⟩:=h.cm;exact⟨h.below.trans (below_drewN _ _ _),h.keep,d,e,a.base,a.blk,a.names,a.fmts⟩
def sN (x:Int)(f:Bool):Bool:=decide ((97<=x/\x<=122)\/(65<=x/\x<=90)\/x=95\/(f=af/\48<=x/\x<=57))
theorem Rx (x:Int):
  (¬97<=x/\¬65<=x/\(x==95)=af/\¬48<=x/\True)\/(¬97<=x/\¬65<=x/\(x==95)=af/\48<=x/\x<=57)\/(¬97<=x/\¬65<=x/\(x==95)=af/\48<=x/\¬x<=57)
  \/(¬97<=x/\65<=x/\x<=90/\True/\True)\/(¬97<=x/\(65<=x/\¬x<=90)/\(x==95)=af/\48<=x/\¬x<=57)\/(¬97<=x/\65<=x/\¬x<=90/\(x==95)=aj/\True)
  \/(97<=x/\x<=122/\True/\True/\True)\/((97<=x/\¬x<=122)/\(65<=x/\¬x<=90)/\(x==95)=af/\48<=x/\¬x<=57):=by
 simp only[and_true,beq_iff_eq,iy,ne_eq];omega
theorem Ry (x:Int)(f:Bool):∃b,Hid (sN x f=b)/\(
  (b=af/\¬97<=x/\¬65<=x/\(x==95)=af/\¬48<=x)\/(b=!f/\¬97<=x/\¬65<=x/\(x==95)=af/\48<=x/\x<=57)\/(b=af/\¬97<=x/\¬65<=x/\(x==95)=af/\48<=x/\¬x<=57)
  \/(b=aj/\¬97<=x/\65<=x/\x<=90)\/(b=af/\¬97<=x/\65<=x/\¬x<=90/\(x==95)=af/\48<=x/\¬x<=57)\/(b=aj/\¬97<=x/\65<=x/\¬x<=90/\(x==95)=aj)
  \/(b=aj/\97<=x/\x<=122)\/(b=af/\97<=x/\¬x<=122/\65<=x/\¬x<=90/\(x==95)=af/\48<=x/\¬x<=57)):=by
 have T:∀P:Prop,[Decidable P]->P->decide P=aj:=λP _ h=>iq h
 have F:∀P:Prop,[Decidable P]->¬P->decide P=af:=λP _ h=>iw h
 rcases Rx x with⟨c,d,a,e,g⟩|⟨c,d,a,e,g⟩|⟨c,d,a,e,g⟩|⟨c,d,a,e,g⟩|⟨c,⟨d,i⟩,a,e,g⟩|⟨c,d,a,e,g⟩|⟨c,d,a,e,g⟩|⟨⟨c,j⟩,⟨d,i⟩,a,e,g⟩
 ·exact⟨af,F _ (by simp at a;omega),.inl ⟨rfl,c,d,a,e⟩⟩
 ·cases f
  ·exact⟨aj,T _ (.inr (.inr (.inr ⟨rfl,e,g⟩))),.inr (.inl ⟨rfl,c,d,a,e,g⟩)⟩
  ·exact⟨af,F _ (by simp at a;simp;omega),.inr (.inl ⟨rfl,c,d,a,e,g⟩)⟩
 ·exact⟨af,F _ (by simp at a;omega),.inr (.inr (.inl ⟨rfl,c,d,a,e,g⟩))⟩
 ·exact⟨aj,T _ iE,.inr (.inr (.inr (.inl ⟨rfl,c,d,a⟩)))⟩
 ·exact⟨af,F _ (by simp at a;omega),.inr (.inr (.inr (.inr (.inl ⟨rfl,c,d,i,a,e,g⟩))))⟩
 ·exact⟨aj,T _ (by simp at e;omega),.inr (.inr (.inr (.inr (.inr (.inl ⟨rfl,c,d,a,e⟩)))))⟩
 ·exact⟨aj,T _ iE,.inr (.inr (.inr (.inr (.inr (.inr (.inl ⟨rfl,c,d⟩))))))⟩
 ·exact⟨af,F _ (by simp at a;omega),.inr (.inr (.inr (.inr (.inr (.inr (.inr ⟨rfl,c,j,d,i,a,e,g⟩))))))⟩
theorem BK (x:Int)(f:Bool)(w:ay):
  aT aA 56 #[.int .u8 x,.bool f] w λe w'=>e=.returned (.bool (sN x f))/\w=w':=by
 obtain⟨b,a,hc⟩:=Ry x f;cases f
 all_goals
  rcases hc with⟨rfl,h⟩|⟨rfl,h⟩|⟨rfl,h⟩|⟨rfl,h⟩|⟨rfl,h⟩|⟨rfl,h⟩|⟨rfl,h⟩|⟨rfl,h⟩
  all_goals
   obtain⟨c,d⟩:=h;go_enter Tryz.func56,Tryz.ntmps56;go_wp2;go_ret;exact⟨lh a.out.symm,rfl⟩
def lF:Bool->List UInt8->Nat
 |_,[]=>0
 |f,c::t=>if sN c.toNat f then lF af t+1 else 0
def yC (r:List UInt8)(i:Nat):Prop:=i<=r.length/\lF aj r=i+lF (i==0) (r.drop i)
theorem Rz (r:List UInt8):yC r 0:=⟨Nat.zero_le _,iH⟩
theorem RF {r:List UInt8}{i:Nat}(h:yC r i)(hi:i<r.length)(a:sN (r[i].toNat) (i==0)=aj):yC r (i+1):=by
 refine⟨hi,?_⟩;rw[h.2,drop_cons hi,lF,gY a];have:(i+1==0)=af:=iH
 rw[this];omega
theorem run_stop {r:List UInt8}{i:Nat}(h:yC r i)(hi:i<r.length)(a:sN (r[i].toNat) (i==0)=af):lF aj r=i:=by rw[h.2,drop_cons hi];unfold lF;rw[a];simp
theorem run_end {r:List UInt8}{i:Nat}(h:yC r i)(hi:¬i<r.length):lF aj r=i:=by
 rw[h.2,List.drop_eq_nil_of_le iE]
 rfl
theorem I5 {s:ByteArray}{r:List UInt8}{i:Nat}(hs:s.data.toList=46::r)(hi:lF aj r=i):
  Ending.returned (.tuple #[.string (⟨#[34]⟩++s.extract 1 (i+1)++⟨#[34]⟩),.string (s.extract (i+1) (r.length+1)),.bool (decide (1<(i:Int)+1))])=.returned (.tuple #[.string ⟨(34::(r.take (lF aj r))++[34]).toArray⟩,.string ⟨(r.drop (lF aj r)).toArray⟩,.bool (decide (0<lF aj r))]):=by
 have b:s.size=r.length+1:=by have:=ig List.length hs;simpa using this
 have e1:(⟨#[34]⟩++s.extract 1 (i+1)++⟨#[34]⟩:ByteArray)=⟨(34::(r.take (lF aj r))++[34]).toArray⟩:=ext_list (by simp[ByteArray.data_extract,ByteArray.data_append,hs,hi])
 have a:s.extract (i+1) (r.length+1)=⟨(r.drop (lF aj r)).toArray⟩:=ext_list (by simp[ByteArray.data_extract,hs,hi];exact List.take_of_length_le iH)
 have e3:decide (1<(i:Int)+1)=decide (0<lF aj r):=by rw[hi];congr 1;apply propext;omega
 rw[e1,a,e3]
theorem I7 (s:ByteArray)(r:List UInt8)(w:ay)(hs:s.data.toList=46::r)(C:s.size<=100000000):
  aT aA 53 #[.string s] w λe w'=>e=.returned (.tuple #[.string ⟨(34::r.take (lF aj r)++[34]).toArray⟩,.string ⟨(r.drop (lF aj r)).toArray⟩,.bool (decide (0<lF aj r))])/\aH w.heap.size w w':=by
 have t:s.size=r.length+1:=by have:=ig List.length hs;simpa using this
 have m:s[0]' iE=46:=by
  have:s.data.toList.getD 0 0=s[0]' iE:=lC s 0 iE
  rw[<-this,hs];rfl
 have o:∀i,(h:i<r.length)->s[i+1]' iE=r[i]:=λi h=>by
  have:s.data.toList.getD (i+1) 0=s[i+1]' iE:=lC s (i+1) iE
  rw[<-this,hs];simp[List.getD_eq_getElem?_getD,List.getElem?_eq_getElem h]
 have u:((s[0]' iE).toNat:Int)=46:=by rw[m];rfl
 have p:=az hs;have b:=az t;have v:=az o;have D:0<s.size:=iE
 clear hs o m;go_enter Tryz.func53,Tryz.ntmps53;have E:(r.length:Int)+1<=100000000:=iE
 go_wp2;clear u
 go_loop [5] (λn=>∃i:Nat,n=.int .i64 ((i:Int)+1)/\yC r i) (λn=>s.size - (intOf n).toNat)
 case atStart=>exact⟨0,rfl,Rz r⟩
 case round=>
  obtain⟨i,rfl,hr⟩:=hrel;have F:=hr.1;by_cases c:i<r.length
  ·have x:(i:Int)+1<s.size:=by have:=b.out;omega
   have G:(0:Int)<=(i:Int)+1:=iE;have y:((i:Int)+1).toNat=i+1:=iE;have H:i+1<s.size:=(by have:=b.out;omega);have j:=v.out i c;obtain⟨f,hf⟩:=iC ((i==0))
   have e1:((i:Int)+1==1)=f:=by
    rw[<-hf];by_cases h:i=0
    ·subst h;rfl
    ·have k:(i==0)=af:=by simpa using h
     have l:((i:Int)+1==1)=af:=iI;rw[k,l]
   have e3:((i:Int)==0)=f:=by
    rw[<-e1];by_cases h:i=0
    ·subst h;rfl
    ·have k:((i:Int)==0)=af:=iI
     have l:((i:Int)+1==1)=af:=iI;rw[k,l]
   have d:=RF hr c;have g:=run_stop hr c;rw[<-j,hf]at d g;cases q:sN (s[i+1].toNat) f
   ·have a:=az (g q)
    clear d g j hf
    go_wp2_with(go_at_call 56;refine(BK _ _ _).mono ?_;rintro e z ⟨rfl,rfl⟩)
    have A:(1:Int)<=(i:Int)+1:=iE;have B:(i:Int)+1<=s.size:=iE
    go_quiet (fail)
    go_wp2;go_ret3;exact⟨I5 p.out a.out,below_drewN _ _ _⟩
   ·have a:=az (d q)
    clear d g j hf
    go_wp2_with(go_at_call 56;refine(BK _ _ _).mono ?_;rintro e z ⟨rfl,rfl⟩)
    go_round
    case rel=>exact⟨i+1,by go_num,a.out⟩
    case measure=>simp[intOf];omega
  ·have x:¬(i:Int)+1<s.size:=by have:=b.out;omega
   have a:=az (run_end hr c);have A:(1:Int)<=(i:Int)+1:=iE;have B:(i:Int)+1<=s.size:=(by have:=b.out;omega);have I:(0:Int)<=(i:Int)+1:=iE;have y:((i:Int)+1).toNat=i+1:=iE;go_wp2
   go_quiet (fail)
   go_wp2;go_ret3;exact⟨I5 p.out a.out,below_drewN _ _ _⟩
def jB:List UInt8->Int->Bool->Nat->Int
 |[],_,_,_=> -1
 |c::r,d,q,i=>
  if q=aj/\c=92 then(match r with|[]=> -1|_::r'=>jB r' d q (i+2))
  else if c=34 then jB r d (!q) (i+1)
  else if q=aj then jB r d q (i+1)
  else if c=123 then jB r (d+1) q (i+1)
  else if c=125 then(if d - 1=0 then(i:Int)else jB r (d - 1) q (i+1))
  else jB r d q (i+1)
theorem RG (x:Int):((x==92)=aj/\(x==34)=af/\(x==123)=af/\(x==125)=af)\/((x==92)=af/\(x==34)=aj/\(x==123)=af/\(x==125)=af)\/((x==92)=af/\(x==34)=af/\(x==123)=aj/\(x==125)=af)
  \/((x==92)=af/\(x==34)=af/\(x==123)=af/\(x==125)=aj)\/((x==92)=af/\(x==34)=af/\(x==123)=af/\(x==125)=af):=by
 simp only[beq_iff_eq,iy,ne_eq];omega
theorem BL (c:UInt8)(n:Nat)(hn:n<256):(((c.toNat:Int)==(n:Int))=aj↔c=UInt8.ofNat n):=by
 rw[beq_iff_eq];constructor
 ·intro h
  apply UInt8.toNat_inj.1;rw[UInt8.toNat_ofNat'];omega
 ·rintro rfl
  rw[UInt8.toNat_ofNat'];omega
theorem RH (d:Int)(q:Bool)(i:Nat)(l:List UInt8)(h:l.length<=i):jB (l.drop i) d q i= -1:=by rw[List.drop_eq_nil_of_le h];rfl
theorem RI {l:List UInt8}{i:Nat}(h:i<l.length)(d:Int)(q:Bool):jB (l.drop i) d q i=
  if q=aj/\l[i]=92 then jB (l.drop (i+2)) d q (i+2)
  else if l[i]=34 then jB (l.drop (i+1)) d (!q) (i+1)
  else if q=aj then jB (l.drop (i+1)) d q (i+1)
  else if l[i]=123 then jB (l.drop (i+1)) (d+1) q (i+1)
  else if l[i]=125 then(if d - 1=0 then(i:Int)else jB (l.drop (i+1)) (d - 1) q (i+1))
  else jB (l.drop (i+1)) d q (i+1):=by
 rw[drop_cons h]
 conv=>lhs;unfold jB
 have e:l.drop (i+2)=(l.drop (i+1)).drop 1:=by rw[List.drop_drop]
 rw[e];cases l.drop (i+1)<;>rfl
theorem I8 (s:ByteArray)(w:ay)(hs:s.size<=100000000):
  aT aA 57 #[.string s] w λe w'=>e=.returned (.int .i64 (jB s.data.toList 0 af 0))/\w=w':=by
 have B:Hid (s.data.toList.length=s.size):=by show s.data.toList.length=s.size;simp
 go_enter Tryz.func57,Tryz.ntmps57;go_wp2
 go_loop [3,4,5] (λD E z=>∃(i:Nat) (d:Int) (q:Bool),D=.int .i64 d/\E=.bool q/\z=.int .i64 i/\i<=s.size+1/\ -(i:Int)<=d/\d<=i/\jB s.data.toList 0 af 0=jB (s.data.toList.drop i) d q i) (λ_ _ z=>s.size+1 - (intOf z).toNat)
 case atStart=>exact⟨0,0,af,rfl,rfl,rfl,iE,iE,iE,by rw[List.drop_zero]⟩
 case round=>
  obtain⟨i,d,q,rfl,rfl,rfl,hi,J,K,y⟩:=hrel;by_cases L:i<s.size
  ·have F:=B.out
   have A:=RI (l:=s.data.toList) (i:=i) iE d q;have C:s.data.toList[i]' iE=s[i]:=rfl
   rw[C]at A;have n:((s[i].toNat:Int)==92)=aj↔s[i]=92:=BL s[i] 92 iG;have o:((s[i].toNat:Int)==34)=aj↔s[i]=34:=BL s[i] 34 iG;have p:((s[i].toNat:Int)==123)=aj↔s[i]=123:=BL s[i] 123 iG;have k:((s[i].toNat:Int)==125)=aj↔s[i]=125:=BL s[i] 125 iG;have f:(((s[i].toNat:Int)==92)=af)->¬s[i]=92:=λh e=>by rw[n.2 e]at h;cases h
   have c:(((s[i].toNat:Int)==34)=af)->¬s[i]=34:=λh e=>by rw[o.2 e]at h;cases h
   have g:(((s[i].toNat:Int)==123)=af)->¬s[i]=123:=λh e=>by rw[p.2 e]at h;cases h
   have r:(((s[i].toNat:Int)==125)=af)->¬s[i]=125:=λh e=>by rw[k.2 e]at h;cases h
   have b:∀x,jB (s.data.toList.drop i) d q i=x->Hid (jB s.data.toList 0 af 0=x):=λx h=>y.trans h
   rw[A]at b;have G:(i:Int)<s.size:=iE;have M:∀j:Nat,j=i+1\/j=i+2->j<=s.size+1:=iE;clear y A C F;rcases RG (s[i].toNat:Int)with⟨t,m,u,v⟩|⟨t,m,u,v⟩|⟨t,m,u,v⟩|⟨t,m,u,v⟩|⟨t,m,u,v⟩
   ·cases q
    ·have a:=b _ (by rw[gZ iH,gZ (c m),gZ iH,gZ (g u),gZ (r v)])
     clear b n o p k f c g r;go_wp2;go_round
     case rel=>exact⟨i+1,d,af,rfl,rfl,by go_num,iE,iE,iE,a.out⟩
     case measure=>simp[intOf];omega
    ·have a:=b _ (by rw[gY ⟨rfl,n.1 t⟩])
     clear b n o p k f c g r;go_wp2;go_round
     case rel=>exact⟨i+2,d,aj,rfl,rfl,ig _ iE,iE,iE,iE,a.out⟩
     case measure=>simp[intOf];omega
   ·have a:=b _ (by rw[gZ (λh=>f t h.2),gY (o.1 m)])
    clear b n o p k f c g r;cases q
    ·go_wp2
     go_round
     case rel=>exact⟨i+1,d,aj,rfl,rfl,by go_num,iE,iE,iE,a.out⟩
     case measure=>simp[intOf];omega
    ·go_wp2
     go_round
     case rel=>exact⟨i+1,d,af,rfl,rfl,by go_num,iE,iE,iE,a.out⟩
     case measure=>simp[intOf];omega
   ·cases q
    ·have a:=b _ (by rw[gZ iH,gZ (c m),gZ iH,gY (p.1 u)])
     clear b n o p k f c g r;go_wp2;go_round
     case rel=>exact⟨i+1,d+1,af,rfl,rfl,by go_num,iE,iE,iE,a.out⟩
     case measure=>simp[intOf];omega
    ·have a:=b _ (by rw[gZ (λh=>f t h.2),gZ (c m),gY rfl])
     clear b n o p k f c g r;go_wp2;go_round
     case rel=>exact⟨i+1,d,aj,rfl,rfl,by go_num,iE,iE,iE,a.out⟩
     case measure=>simp[intOf];omega
   ·cases q
    ·by_cases hd:d - 1=0
     ·have a:=b _ (by rw[gZ iH,gZ (c m),gZ iH,gZ (g u),gY (k.1 v),gY hd])
      have H:((d - 1:Int)==0)=aj:=(by simpa using hd);have I:(d==1)=aj:=iI;clear b n o p k f c g r hd;go_wp2;go_ret;exact⟨AQ a.out.symm,rfl⟩
     ·have a:=b _ (by rw[gZ iH,gZ (c m),gZ iH,gZ (g u),gY (k.1 v),gZ hd])
      have H:((d - 1:Int)==0)=af:=(by simpa using hd);have I:(d==1)=af:=iI;clear b n o p k f c g r hd;go_wp2;go_round
      case rel=>exact⟨i+1,d - 1,af,rfl,rfl,by go_num,iE,iE,iE,a.out⟩
      case measure=>simp[intOf];omega
    ·have a:=b _ (by rw[gZ (λh=>f t h.2),gZ (c m),gY rfl])
     clear b n o p k f c g r;go_wp2;go_round
     case rel=>exact⟨i+1,d,aj,rfl,rfl,by go_num,iE,iE,iE,a.out⟩
     case measure=>simp[intOf];omega
   ·cases q
    ·have a:=b _ (by rw[gZ iH,gZ (c m),gZ iH,gZ (g u),gZ (r v)])
     clear b n o p k f c g r;go_wp2;go_round
     case rel=>exact⟨i+1,d,af,rfl,rfl,by go_num,iE,iE,iE,a.out⟩
     case measure=>simp[intOf];omega
    ·have a:=b _ (by rw[gZ (λh=>f t h.2),gZ (c m),gY rfl])
     clear b n o p k f c g r;go_wp2;go_round
     case rel=>exact⟨i+1,d,aj,rfl,rfl,by go_num,iE,iE,iE,a.out⟩
     case measure=>simp[intOf];omega
  ·have G:¬(i:Int)<s.size:=iE
   have a:Hid (jB s.data.toList 0 af 0= -1):=by show _=_;rw[y,RH _ _ _ _ (by rw[B.out];omega)]
   clear y;go_wp2;go_ret;exact⟨AQ a.out.symm,rfl⟩
