import Derived.Test.YthcalnnipjflkaaGreatDoorP29
open Go.Lib renaming cell_of_heap -> ae
open PLift renaming up -> af
open Option renaming some -> ag, none -> au
open Array renaming getElem?_eq_some_iff -> ah
open Go renaming heap_alloc_new -> aj, World -> ax, Calls -> aN
open Go.Proofs.Tryz renaming prog -> ay, ntmps160 -> az, ntmps134 -> aA, func160 -> aC, func134 -> aH, ntmps135 -> aJ, func135 -> aK
open Option.some renaming injEq -> aB
open List renaming nil_append -> aI
set_option linter.all false
set_option maxHeartbeats 4000000
set_option maxRecDepth 100000
namespace Go.Proofs.YthcalnnipjflkaaGreatDoor
open Go.RowKit
open Go.Lib hiding intOf
theorem BH {l:List UInt8}{first:Nat}{sep:UInt8}:∀n i k vs ws k',jW l first sep n i k vs=ag (ws,k')->∃us,ws=vs++us/\us.length=n/\∀j u,us[j]?=ag u->u+1<=10^(if i+j=0 then first else 2)
 |0,i,k,vs,ws,k',h=>by simp only[jW,aB,Prod.mk.injEq]at h;exact⟨[],by simp[h.1],rfl,λj u a=>by simp at a⟩
 |n+1,i,k,vs,ws,k',h=>by
  unfold jW at h;split at h
  ·cases h
  ·rename_i m o
   split at h
   ·cases h
   ·rename_i v c hv
    obtain⟨us,d,e,f⟩:=BH n (i+1) c (vs++[v]) ws k' h;have g:=(BA _ _ _ _ _ _ hv).1;refine⟨v::us,by rw[d];simp,by simp[e],λj u a=>?_⟩;cases j with
    |zero=>simp only[List.getElem?_cons_zero,aB]at a;subst a;simpa using g
    |succ j=>have b:=f j u (by simpa using a);rw[show i+1+j=i+(j+1) by omega]at b;exact b
theorem IU {l:List UInt8}:∀n k na,(jS l n k na).1 +1<=(na+1)*10^((jS l n k na).2 - k)/\k<=(jS l n k na).2 /\(jS l n k na).2 <=k+n
 |0,k,na=>by simp[jS]
 |n+1,k,na=>by
  cases hc:l[k]? with
  |none=>have e:jS l (n+1) k na=(na,k):=(by unfold jS;rw[hc]);rw[e];simp
  |some c=>
   cases hd:jZ c with
   |false=>have e:=Eo (n:=n+1) (na:=na) hc hd;rw[e];simp
   |true=>
    have e:=IQ (n:=n) (na:=na) hc hd;rw[e];obtain⟨a,b,d⟩:=IU (l:=l) n (k+1) (10*na+(c.toNat - 48));refine⟨?_,iE,iE⟩
    have f:c.toNat - 48<=9:=by unfold jZ at hd;simp only[Bool.and_eq_true,decide_eq_true_eq]at hd;omega
    refine Nat.le_trans a ?_;rw[show(jS l n (k+1) (10*na+(c.toNat - 48))).2 - k=((jS l n (k+1) (10*na+(c.toNat - 48))).2 - (k+1))+1 by omega,Nat.pow_succ,Nat.mul_comm (10^_) 10,<-Nat.mul_assoc];exact Nat.mul_le_mul_right _ iE
theorem QV {l:List UInt8}{k na c:Nat}(h:vY l k=ag (na,c)):na<=999999999:=by
 unfold vY at h;split at h
 ·split at h
  ·cases h
  ·simp only[aB,Prod.mk.injEq]at h
   obtain⟨b,f,g⟩:=IU (l:=l) 9 (k+1) 0;obtain⟨rfl,rfl⟩:=h;have d:(jS l 9 (k+1) 0).2 - (k+1)<=9:=iE;generalize(jS l 9 (k+1) 0).1 =a at b⊢;generalize(jS l 9 (k+1) 0).2 - (k+1)=j at b d⊢;have e:(a+1)*10^(9 - j)<=(10^j)*10^(9 - j):=Nat.mul_le_mul_right _ (by simpa using b);rw[<-Nat.pow_add,show j+(9 - j)=9 by omega,Nat.add_mul]at e;have i:0<10^(9 - j):=Nat.pow_pos iG;have m:(10:Nat)^9=1000000000:=iG;omega
 ·cases h
  decide
def Ep (m:Mo):Prop:=∃a b c d e g h f7,m.f=[a,b,c,d,e,g,h,f7]/\a<=9999/\b<=99/\c<=99/\d<=99/\e<=99/\g<=99/\h<=99/\f7<=99/\m.na<=999999999/\(m.sh=1\/m.sh=2\/m.sh=3)/\(m.zo≠0->m.sh=3)
theorem QW {l:List UInt8}{sh c d e f g i na k:Nat}{m:Mo}(h:mO l sh [c,d,e,f,g,i] na k=ag m)(j:c<=9999)(n:d<=99)(o:e<=99)(p:f<=99)(q:g<=99)(r:i<=99)(s:na<=999999999)(u:sh=1\/sh=2\/sh=3):Ep m:=by
 unfold mO at h;split at h
 ·rename_i x
  split at h
  ·split at h
   ·cases h
    exact⟨c,d,e,f,g,i,0,0,rfl,j,n,o,p,q,r,iE,iE,s,.inr (.inr rfl),λ_=>rfl⟩
   ·cases h
  ·split at h
   ·split at h
    ·cases h
    ·rename_i z y v
     split at h
     ·obtain⟨us,e1,w,e3⟩:=BH _ _ _ _ _ _ v
      obtain⟨a,b,rfl⟩:=two w;have ha:=e3 0 a rfl;have t:=e3 1 b rfl;simp only[Nat.reduceAdd,if_true,Nat.reducePow]at ha t;simp only[aI]at e1;subst e1;cases h;exact⟨c,d,e,f,g,i,a,b,rfl,j,n,o,p,q,r,iE,by simp at t;omega,s,.inr (.inr rfl),λ_=>rfl⟩
     ·cases h
   ·cases h
 ·split at h
  ·cases h
   exact⟨c,d,e,f,g,i,0,0,rfl,j,n,o,p,q,r,iE,iE,s,u,λh=>absurd rfl h⟩
  ·cases h
theorem IV {l:List UInt8}{sh d0 d e k:Nat}{m:Mo}(h:qI l sh [d0,d,e] k=ag m)(f:d0<=9999)(g:d<=99)(i:e<=99)(q:sh<=1):Ep m:=by
 unfold qI at h;split at h
 ·cases h
 ·rename_i t r j
  obtain⟨us,e1,n,e3⟩:=BH _ _ _ _ _ _ j;obtain⟨a,b,c,rfl⟩:=three n;have ha:=e3 0 a rfl;have o:=e3 1 b rfl;have hc:=e3 2 c rfl;simp only[aI]at e1;subst e1;split at h
  ·cases h
  ·rename_i na s p
   exact QW h f g i (by simp at ha;omega) (by simp at o;omega) (by simp at hc;omega) (QV p) iE
theorem Es {l:List UInt8}{m:Mo}(h:rD l=ag m):Ep m:=by
 unfold rD at h;split at h
 ·split at h
  ·cases h
  ·rename_i d k hd
   obtain⟨us,e1,e,e3⟩:=BH _ _ _ _ _ _ hd;obtain⟨a,b,c,rfl⟩:=three e;have ha:=e3 0 a rfl;have f:=e3 1 b rfl;have hc:=e3 2 c rfl;simp only[aI]at e1;subst e1;simp at ha f hc;split at h
   ·cases h
    exact⟨a,b,c,0,0,0,0,0,rfl,iE,iE,iE,iE,iE,iE,iE,iE,iH,.inl rfl,λh=>absurd rfl h⟩
   ·split at h
    ·exact IV h iE iE iE (Nat.le_refl _)
    ·cases h
 ·exact IV h iE iE iE (Nat.zero_le _)
theorem QX (s:ByteArray)(hs:s.size<=1000000):∃(t:ByteArray) (c:Int),t.size<=301/\(c=0->(rD s.data.toList).isSome=true)/\∀w:ax,lq w->
  aN ay 160 #[.string s] w λr w'=>r=.returned (.tuple #[.string t,.int .i64 c])/\Below w.heap.size w w':=by
 cases hr:rD s.data.toList with
 |none=>
  refine⟨⟨#[]⟩,3,iG,(λh=>by cases h),λw u=>?_⟩;have H:=af (λW:ax=>zG s hs W);rw[hr]at H;unfold yz at H;clear hr u hs;go_enter aC,az
  go_wp2_with(go_at_call 156;refine(H.1 _).mono ?_;rintro e a ⟨b,aa,ab,ac,ad,ai,ak,al,am,an,ao,ap,rfl⟩;have j:=af b;clear b)
  go_ret2;exact⟨rfl,j.1.trans ((iW _ _).mono j.1.size)⟩
 |some m=>
  obtain⟨k,l,n,o,p,q,v,f7,hf,y,D,E,I,J,K,L,M,z,A,F⟩:=Es hr;obtain⟨sh,f,na,g⟩:=m;simp only at hf z A F;subst hf;have G:=af (λ(W:ax)=>Iy sh k l n o p q v f7 na g y D E W)
  have N:=af (show ∀W:ax,aN ay 156 #[.string s] W λe w'=>Below W.heap.size W w'/\e=.returned (.tuple #[.agg #[.int .i64 ((sh:Nat):Int),.int .i64 ((k:Nat):Int),.int .i64 ((l:Nat):Int),.int .i64 ((n:Nat):Int),.int .i64 ((o:Nat):Int),.int .i64 ((p:Nat):Int),.int .i64 ((q:Nat):Int),.int .i64 ((v:Nat):Int),.int .i64 ((f7:Nat):Int),.int .i64 ((na:Nat):Int),.int .u8 ((g:Nat):Int)],.bool true])from λW=>by have h:=zG s hs W;rw[hr]at h;exact h)
  by_cases B:g=0
  ·obtain⟨ok,O⟩:=iC (xn sh k l n o p q v f7)
   rw[O]at G;have S:((g:Int)==0)=true:=(by rw[B];rfl);have U:((g:Int)!=0)=false:=(by rw[B];rfl);cases ok with
   |false=>
    refine⟨⟨#[]⟩,13,iG,(λh=>by cases h),λw u=>?_⟩;clear u hs O hr B y D E I J K L M z A F;go_enter aC,az
    go_wp2_with(first
     |(go_at_call 156;refine(N.1 _).mono ?_;rintro e a ⟨b,rfl⟩;have j:=af (b.trans ((iW a (.cells #[.int .i64 ((sh:Nat):Int),.int .i64 ((k:Nat):Int),.int .i64 ((l:Nat):Int),.int .i64 ((n:Nat):Int),.int .i64 ((o:Nat):Int),.int .i64 ((p:Nat):Int),.int .i64 ((q:Nat):Int),.int .i64 ((v:Nat):Int),.int .i64 ((f7:Nat):Int),.int .i64 ((na:Nat):Int),.int .u8 ((g:Nat):Int)] 227)).mono b.size));clear b)
     |(go_at_call 157;refine(G.1 _).mono ?_;rintro e i ⟨rfl,x⟩;have d:=(x.block _ (ah.1 (aj a _)).1).trans (aj a _);have C:=af (j.1.trans (x.mono j.1.size));clear x d))
    go_ret2;exact⟨rfl,C.1⟩
   |true=>
    have V:=IB sh k l n o p q na y iE iE iE iE iE z;have P:=af (λ(W:ax) (X:lq W)=>Iw sh k l n o p q v f7 na g A y iE iE iE iE iE z W X);obtain⟨T,Q⟩:=iC (uz sh k l n o p q na);rw[Q]at P V;refine⟨T,0,iE,(λ_=>rfl),λw u=>?_⟩;have Y:=af u;clear u hs O hr B y D E I J K L M z A F Q;go_enter aC,az
    go_wp2_with(first
     |(go_at_call 156;refine(N.1 _).mono ?_;rintro e a ⟨b,rfl⟩;have j:=af (b.trans ((iW a (.cells #[.int .i64 ((sh:Nat):Int),.int .i64 ((k:Nat):Int),.int .i64 ((l:Nat):Int),.int .i64 ((n:Nat):Int),.int .i64 ((o:Nat):Int),.int .i64 ((p:Nat):Int),.int .i64 ((q:Nat):Int),.int .i64 ((v:Nat):Int),.int .i64 ((f7:Nat):Int),.int .i64 ((na:Nat):Int),.int .u8 ((g:Nat):Int)] 227)).mono b.size));clear b)
     |(go_at_call 157;refine(G.1 _).mono ?_;rintro e i ⟨rfl,x⟩;have d:=(x.block _ (ah.1 (aj a _)).1).trans (aj a _);have aq:i.cell? ⟨a.heap.size,0,au⟩=ag (.int .i64 ((sh:Nat):Int)):=ae d 0;have ar:i.cell? ⟨a.heap.size,1,au⟩=ag (.int .i64 ((k:Nat):Int)):=ae d 1;have av:i.cell? ⟨a.heap.size,2,au⟩=ag (.int .i64 ((l:Nat):Int)):=ae d 2;have aw:i.cell? ⟨a.heap.size,3,au⟩=ag (.int .i64 ((n:Nat):Int)):=ae d 3;have aD:i.cell? ⟨a.heap.size,4,au⟩=ag (.int .i64 ((o:Nat):Int)):=ae d 4;have aE:i.cell? ⟨a.heap.size,5,au⟩=ag (.int .i64 ((p:Nat):Int)):=ae d 5;have aF:i.cell? ⟨a.heap.size,6,au⟩=ag (.int .i64 ((q:Nat):Int)):=ae d 6;have aG:i.cell? ⟨a.heap.size,7,au⟩=ag (.int .i64 ((v:Nat):Int)):=ae d 7;have aL:i.cell? ⟨a.heap.size,8,au⟩=ag (.int .i64 ((f7:Nat):Int)):=ae d 8;have aM:i.cell? ⟨a.heap.size,9,au⟩=ag (.int .i64 ((na:Nat):Int)):=ae d 9;have aR:i.cell? ⟨a.heap.size,10,au⟩=ag (.int .u8 ((g:Nat):Int)):=ae d 10;have C:=af (j.1.trans (x.mono j.1.size));clear x d)
     |(go_at_call 189;refine(P.1 _ (Y.1.below C.1)).mono ?_;rintro e w3 ⟨rfl,R⟩;have Z:=af (C.1.trans (R.mono C.1.size));clear R))
    go_ret2;exact⟨rfl,Z.1⟩
  ·have S:((g:Int)==0)=false:=iI
   have U:((g:Int)!=0)=true:=iI;refine⟨⟨#[]⟩,3,iG,(λh=>by cases h),λw u=>?_⟩;clear u hs hr B y D E I J K L M z A F G;go_enter aC,az
   go_wp2_with(go_at_call 156;refine(N.1 _).mono ?_;rintro e a ⟨b,rfl⟩;have j:=af (b.trans ((iW a (.cells #[.int .i64 ((sh:Nat):Int),.int .i64 ((k:Nat):Int),.int .i64 ((l:Nat):Int),.int .i64 ((n:Nat):Int),.int .i64 ((o:Nat):Int),.int .i64 ((p:Nat):Int),.int .i64 ((q:Nat):Int),.int .i64 ((v:Nat):Int),.int .i64 ((f7:Nat):Int),.int .i64 ((na:Nat):Int),.int .u8 ((g:Nat):Int)] 227)).mono b.size));clear b)
   go_ret2;exact⟨rfl,j.1⟩
theorem QY (s:ByteArray)(hs:s.size<=1000000):∃(t:ByteArray) (c:Int),t.size<=301/\∀w:ax,lq w->
  aN ay 134 #[.string s] w λr w'=>r=.returned (.tuple #[.string t,.int .i64 c])/\Below w.heap.size w w':=by
 cases hr:rD s.data.toList with
 |none=>
  refine⟨⟨#[]⟩,3,iG,λw z=>?_⟩;have P:=af (λW:ax=>zG s hs W);rw[hr]at P;unfold yz at P;clear hr z hs;go_enter aH,aA
  go_wp2_with(go_at_call 156;refine(P.1 _).mono ?_;rintro e a ⟨d,ap,aq,ar,av,aw,aD,aE,aG,aL,aM,aR,rfl⟩;have v:=af d;clear d)
  go_ret2;exact⟨rfl,v.1.trans ((iW _ _).mono v.1.size)⟩
 |some m=>
  obtain⟨j,k,l,n,o,p,q,f7,hf,B,y,C,D,E,F,G,H,I,J,K⟩:=Es hr;obtain⟨sh,f,na,b⟩:=m;simp only at hf I J K;subst hf;have L:=af (λ(W:ax)=>Iy sh j k l n o p q f7 na b B y C W)
  have Q:=af (show ∀W:ax,aN ay 156 #[.string s] W λe w'=>Below W.heap.size W w'/\e=.returned (.tuple #[.agg #[.int .i64 ((sh:Nat):Int),.int .i64 ((j:Nat):Int),.int .i64 ((k:Nat):Int),.int .i64 ((l:Nat):Int),.int .i64 ((n:Nat):Int),.int .i64 ((o:Nat):Int),.int .i64 ((p:Nat):Int),.int .i64 ((q:Nat):Int),.int .i64 ((f7:Nat):Int),.int .i64 ((na:Nat):Int),.int .u8 ((b:Nat):Int)],.bool true])from λW=>by have h:=zG s hs W;rw[hr]at h;exact h)
  by_cases M:b=0
  ·have ad:((b:Int)==0)=true:=by rw[M];rfl
   refine⟨⟨#[]⟩,3,iG,λw z=>?_⟩;clear z hs hr M B y C D E F G H I J K L;go_enter aH,aA
   go_wp2_with(go_at_call 156;refine(Q.1 _).mono ?_;rintro e a ⟨d,rfl⟩;have v:=af (d.trans ((iW a (.cells #[.int .i64 ((sh:Nat):Int),.int .i64 ((j:Nat):Int),.int .i64 ((k:Nat):Int),.int .i64 ((l:Nat):Int),.int .i64 ((n:Nat):Int),.int .i64 ((o:Nat):Int),.int .i64 ((p:Nat):Int),.int .i64 ((q:Nat):Int),.int .i64 ((f7:Nat):Int),.int .i64 ((na:Nat):Int),.int .u8 ((b:Nat):Int)] 227)).mono d.size));clear d)
   go_ret2;exact⟨rfl,v.1⟩
  ·obtain⟨ok,R⟩:=iC (xn sh j k l n o p q f7)
   rw[R]at L;have ad:((b:Int)==0)=false:=iI;cases ok with
   |false=>
    refine⟨⟨#[]⟩,13,iG,λw z=>?_⟩;clear z hs R hr M B y C D E F G H I J K;go_enter aH,aA
    go_wp2_with(first
     |(go_at_call 156;refine(Q.1 _).mono ?_;rintro e a ⟨d,rfl⟩;have v:=af (d.trans ((iW a (.cells #[.int .i64 ((sh:Nat):Int),.int .i64 ((j:Nat):Int),.int .i64 ((k:Nat):Int),.int .i64 ((l:Nat):Int),.int .i64 ((n:Nat):Int),.int .i64 ((o:Nat):Int),.int .i64 ((p:Nat):Int),.int .i64 ((q:Nat):Int),.int .i64 ((f7:Nat):Int),.int .i64 ((na:Nat):Int),.int .u8 ((b:Nat):Int)] 227)).mono d.size));clear d)
     |(go_at_call 157;refine(L.1 _).mono ?_;rintro e g ⟨rfl,A⟩;have i:=(A.block _ (ah.1 (aj a _)).1).trans (aj a _);have N:=af (v.1.trans (A.mono v.1.size));clear A i))
    go_ret2;exact⟨rfl,N.1⟩
   |true=>
    have S:=af (λ(W:ax)=>QG sh j k l n o p q f7 na b B y C D E F G H W);have O:=QF j k l n o p q f7 b B y C D E F G H;obtain⟨x,hx⟩:=iC (yw j k l n o p q f7 b);rw[hx]at S O;obtain⟨T,c,U,V⟩:=QL x na O.1 O.2 I;have ai:=af V;refine⟨T,c,U,λw z=>?_⟩;have ak:=af z;clear z hs R hr M B y C D E F G H I J K hx O U V;go_enter aH,aA
    go_upto_region 6 with(first
     |(go_at_call 156;refine(Q.1 _).mono ?_;rintro e a ⟨d,rfl⟩;have v:=af (d.trans ((iW a (.cells #[.int .i64 ((sh:Nat):Int),.int .i64 ((j:Nat):Int),.int .i64 ((k:Nat):Int),.int .i64 ((l:Nat):Int),.int .i64 ((n:Nat):Int),.int .i64 ((o:Nat):Int),.int .i64 ((p:Nat):Int),.int .i64 ((q:Nat):Int),.int .i64 ((f7:Nat):Int),.int .i64 ((na:Nat):Int),.int .u8 ((b:Nat):Int)] 227)).mono d.size));clear d)
     |(go_at_call 157;refine(L.1 _).mono ?_;rintro e g ⟨rfl,A⟩;have al:=af A;have i:=(A.block _ (ah.1 (aj a _)).1).trans (aj a _);have a0:g.cell? ⟨a.heap.size,0,au⟩=ag (.int .i64 ((sh:Nat):Int)):=ae i 0;have a1:g.cell? ⟨a.heap.size,1,au⟩=ag (.int .i64 ((j:Nat):Int)):=ae i 1;have a2:g.cell? ⟨a.heap.size,2,au⟩=ag (.int .i64 ((k:Nat):Int)):=ae i 2;have a3:g.cell? ⟨a.heap.size,3,au⟩=ag (.int .i64 ((l:Nat):Int)):=ae i 3;have a4:g.cell? ⟨a.heap.size,4,au⟩=ag (.int .i64 ((n:Nat):Int)):=ae i 4;have a5:g.cell? ⟨a.heap.size,5,au⟩=ag (.int .i64 ((o:Nat):Int)):=ae i 5;have a6:g.cell? ⟨a.heap.size,6,au⟩=ag (.int .i64 ((p:Nat):Int)):=ae i 6;have a7:g.cell? ⟨a.heap.size,7,au⟩=ag (.int .i64 ((q:Nat):Int)):=ae i 7;have a8:g.cell? ⟨a.heap.size,8,au⟩=ag (.int .i64 ((f7:Nat):Int)):=ae i 8;have a9:g.cell? ⟨a.heap.size,9,au⟩=ag (.int .i64 ((na:Nat):Int)):=ae i 9;have ba:g.cell? ⟨a.heap.size,10,au⟩=ag (.int .u8 ((b:Nat):Int)):=ae i 10;have N:=af (v.1.trans (A.mono v.1.size));clear A i))
    have Y:PLift (∀X,Below g.heap.size g X->X.heap[a.heap.size]?=ag (.cells #[.int .i64 ((sh:Nat):Int),.int .i64 ((j:Nat):Int),.int .i64 ((k:Nat):Int),.int .i64 ((l:Nat):Int),.int .i64 ((n:Nat):Int),.int .i64 ((o:Nat):Int),.int .i64 ((p:Nat):Int),.int .i64 ((q:Nat):Int),.int .i64 ((f7:Nat):Int),.int .i64 ((na:Nat):Int),.int .u8 ((b:Nat):Int)] 227)/\Below w.heap.size w X/\lq X):=⟨λX Z=>by have y:=(al.1.block _ (ah.1 (aj a _)).1).trans (aj a (.cells #[.int .i64 ((sh:Nat):Int),.int .i64 ((j:Nat):Int),.int .i64 ((k:Nat):Int),.int .i64 ((l:Nat):Int),.int .i64 ((n:Nat):Int),.int .i64 ((o:Nat):Int),.int .i64 ((p:Nat):Int),.int .i64 ((q:Nat):Int),.int .i64 ((f7:Nat):Int),.int .i64 ((na:Nat):Int),.int .u8 ((b:Nat):Int)] 227));have aa:=N.1.trans (Z.mono N.1.size);exact⟨(Z.block _ (ah.1 y).1).trans y,aa,ak.1.below aa⟩⟩
    refine Mix.mM (aF:=?_) iF iF iF iF iF ?_ ?_;rotate_left 1
    ·intro ρ ab
     have u:=af (λx:iR.Grow ρ=>Y.1 x.w (ab.trans (x.h.mono ab.size)));have bb:=λx:iR.Grow ρ=>show x.w.cell? ⟨a.heap.size,0,au⟩=ag (.int .i64 ((sh:Nat):Int))from ae (u.1 x).1 0
     have bc:=λx:iR.Grow ρ=>show x.w.cell? ⟨a.heap.size,1,au⟩=ag (.int .i64 ((j:Nat):Int))from ae (u.1 x).1 1
     have bd:=λx:iR.Grow ρ=>show x.w.cell? ⟨a.heap.size,2,au⟩=ag (.int .i64 ((k:Nat):Int))from ae (u.1 x).1 2
     have be:=λx:iR.Grow ρ=>show x.w.cell? ⟨a.heap.size,3,au⟩=ag (.int .i64 ((l:Nat):Int))from ae (u.1 x).1 3
     have bf:=λx:iR.Grow ρ=>show x.w.cell? ⟨a.heap.size,4,au⟩=ag (.int .i64 ((n:Nat):Int))from ae (u.1 x).1 4
     have bg:=λx:iR.Grow ρ=>show x.w.cell? ⟨a.heap.size,5,au⟩=ag (.int .i64 ((o:Nat):Int))from ae (u.1 x).1 5
     have bh:=λx:iR.Grow ρ=>show x.w.cell? ⟨a.heap.size,6,au⟩=ag (.int .i64 ((p:Nat):Int))from ae (u.1 x).1 6
     have bi:=λx:iR.Grow ρ=>show x.w.cell? ⟨a.heap.size,7,au⟩=ag (.int .i64 ((q:Nat):Int))from ae (u.1 x).1 7
     have bj:=λx:iR.Grow ρ=>show x.w.cell? ⟨a.heap.size,8,au⟩=ag (.int .i64 ((f7:Nat):Int))from ae (u.1 x).1 8
     have bk:=λx:iR.Grow ρ=>show x.w.cell? ⟨a.heap.size,9,au⟩=ag (.int .i64 ((na:Nat):Int))from ae (u.1 x).1 9
     have bl:=λx:iR.Grow ρ=>show x.w.cell? ⟨a.heap.size,10,au⟩=ag (.int .u8 ((b:Nat):Int))from ae (u.1 x).1 10
     have am:=af (λx:iR.Grow ρ=>S.1 x.w);have an:=af (λx:iR.Grow ρ=>ai.1 x.w (u.1 x).2.2)
     repeat(go_big_quiet_step((first
      |(go_at_call 159;with_reducible exact iR.Grow.calls (am.1 _))
      |(go_at_call 158;with_reducible exact iR.Grow.calls (an.1 _)))))
     apply wpQuiet_nil;exact rfl
    intro W ac;have ao:=af (Y.1 W ac).2.1;clear ac;go_wp2;go_ret2;exact⟨rfl,ao.1⟩
theorem QZ (s:ByteArray)(hs:s.size<=1000000):∃n:Int,∀w:ax,lq w->
  aN ay 135 #[.string s] w λr w'=>r=.returned (.int .i64 n)/\Below w.heap.size w w':=by
 obtain⟨T,c,u,i,l⟩:=QX s hs;have k:=af l;clear l u;by_cases hc:c=0
 ·subst hc
  by_cases o:(T.toList==s.toList)=true
  ·have hr:=i rfl
   cases j:rD s.data.toList with
   |none=>rw[j]at hr;cases hr
   |some m=>
    obtain⟨v,x,y,z,A,B,C,f7,hf,_⟩:=Es j;obtain⟨sh,f,na,D⟩:=m;simp only at hf;subst hf
    have E:=af (show ∀W:ax,aN ay 156 #[.string s] W λe w'=>Below W.heap.size W w'/\e=.returned (.tuple #[.agg #[.int .i64 ((sh:Nat):Int),.int .i64 ((v:Nat):Int),.int .i64 ((x:Nat):Int),.int .i64 ((y:Nat):Int),.int .i64 ((z:Nat):Int),.int .i64 ((A:Nat):Int),.int .i64 ((B:Nat):Int),.int .i64 ((C:Nat):Int),.int .i64 ((f7:Nat):Int),.int .i64 ((na:Nat):Int),.int .u8 ((D:Nat):Int)],.bool true])from λW=>by have h:=zG s hs W;rw[j]at h;exact h)
    refine⟨(sh:Nat),λw a=>?_⟩;have g:=af a;clear a hr j hs i;go_enter aK,aJ
    go_wp2_with(first
     |(go_at_call 160;refine(k.1 _ g.1).mono ?_;rintro e p ⟨rfl,b⟩;have d:=af b;clear b)
     |(go_at_call 156;refine(E.1 _).mono ?_;rintro e F ⟨q,rfl⟩;have t:=af (d.1.trans (q.mono d.1.size));clear q))
    go_ret;exact⟨rfl,t.1.trans ((iW _ _).mono t.1.size)⟩
  ·have o:(T.toList==s.toList)=false:=by simpa using o
   refine⟨0,λw a=>?_⟩;have g:=af a;clear a hs i;go_enter aK,aJ
   go_wp2_with(go_at_call 160;refine(k.1 _ g.1).mono ?_;rintro e p ⟨rfl,b⟩;have d:=af b;clear b)
   go_ret;exact⟨rfl,d.1⟩
 ·have G:(c==0)=false:=by simpa using hc
  have H:(c !=0)=true:=by simpa using hc
  refine⟨0,λw a=>?_⟩;have g:=af a;clear a hs i hc;go_enter aK,aJ
  go_wp2_with(go_at_call 160;refine(k.1 _ g.1).mono ?_;rintro e p ⟨rfl,b⟩;have d:=af b;clear b)
  go_ret;exact⟨rfl,d.1⟩
end Go.Proofs.YthcalnnipjflkaaGreatDoor
