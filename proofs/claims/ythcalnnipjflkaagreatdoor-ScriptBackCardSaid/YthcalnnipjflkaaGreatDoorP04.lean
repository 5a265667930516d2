import Derived.Test.YthcalnnipjflkaaGreatDoorP03
import Derived.Deep.Cut
import Derived.BigGuardPart
open PLift renaming up -> ae
open Go.RowKit.Below renaming refl -> af
open Go.Proofs.Tryz renaming prog -> ag, ntmps187 -> ah, func187 -> aj, ntmps217 -> au, func217 -> ay, ntmps204 -> aB, func204 -> aC
open Go renaming World -> ax, Calls -> aA, heap_alloc_new -> aH
open Nat renaming le_refl -> az, zero_le -> aI
set_option linter.all false
set_option maxHeartbeats 4000000
set_option maxRecDepth 100000
namespace Go.Proofs.YthcalnnipjflkaaGreatDoor
open Go.RowKit
open Go.Lib hiding intOf
def vX (y:Nat):Bool:=decide (y%4=0)&&(!decide (y%100=0)||decide (y%400=0))
def lQ (y m:Nat):Nat:=if m=2/\vX y=true then 29 else[0,31,28,31,30,31,30,31,31,30,31,30,31].getD m 0
def kD (y:Nat):Int:=365*(y:Int)+(((y+3)/4:Nat):Int) - (((y+99)/100:Nat):Int)+(((y+399)/400:Nat):Int)
theorem Ql (y:Nat)(hy:y<=20000)(w:ax):
  aA ag 217 #[.int .i64 y] w λe w'=>e=.returned (.bool (vX y))/\Below w.heap.size w w':=by
 have k:Int.tmod (y:Int) 4=((y%4:Nat):Int):=rfl;have l:Int.tmod (y:Int) 100=((y%100:Nat):Int):=rfl;have m:Int.tmod (y:Int) 400=((y%400:Nat):Int):=rfl;obtain⟨a,ha⟩:=iC (y%4);obtain⟨b,g⟩:=iC (y%100);obtain⟨c,hc⟩:=iC (y%400);have f:=ae (show vX y=(decide (a=0)&&(!decide (b=0)||decide (c=0))) by unfold vX;rw[ha,g,hc]);rw[ha]at k;rw[g]at l;rw[hc]at m;clear ha g hc hy;by_cases h:a=0
 ·subst h
  by_cases i:b=0
  ·subst i
   by_cases j:c=0
   ·subst j
    go_enter ay,au;go_wp2;go_ret;exact⟨by rw[f.1];rfl,af _ _⟩
   ·have n:¬(c:Int)=0:=iE
    have d:=ae j;clear j;go_enter ay,au;go_wp2;go_ret;exact⟨by rw[f.1];simp[d.1],af _ _⟩
  ·have b1:¬(b:Int)=0:=iE
   have d:=ae i;clear i;go_enter ay,au;go_wp2;go_ret;exact⟨by rw[f.1];simp[d.1],af _ _⟩
 ·have o:¬(a:Int)=0:=iE
  have d:=ae h;clear h;go_enter ay,au;go_wp2;go_ret;exact⟨by rw[f.1];simp[d.1],af _ _⟩
theorem first_any (y:Nat)(hy:y<=20000)(w:ax):
  aA ag 205 #[.int .i64 y] w λe w'=>e=.returned (.int .i64 (kD y))/\Below w.heap.size w w':=by
 have g:(y:Int)<=20000:=iE
 have h:(0:Int)<=(y:Int):=iE
 have b:Int.tdiv ((y:Int)+3) 4=(((y+3)/4:Nat):Int):=rfl;have c:Int.tdiv ((y:Int)+99) 100=(((y+99)/100:Nat):Int):=rfl;have d:Int.tdiv ((y:Int)+399) 400=(((y+399)/400:Nat):Int):=rfl;obtain⟨p,hp⟩:=iC ((y+3)/4);obtain⟨q,a⟩:=iC ((y+99)/100);obtain⟨r,hr⟩:=iC ((y+399)/400);have f:=ae (show kD y=365*(y:Int)+(p:Int) - (q:Int)+(r:Int) by unfold kD;rw[hp,a,hr]);have i:(p:Int)<=20000:=iE
 have j:(q:Int)<=20000:=iE
 have r1:(r:Int)<=20000:=iE
 rw[hp]at b;rw[a]at c;rw[hr]at d;clear hp a hr hy;go_enter Tryz.func205,Tryz.ntmps205;go_wp2;go_ret;exact⟨by rw[f.1];first|rfl|simp,af _ _⟩
theorem Qm {w b:ax}{a:Array Value}{t:Nat}(c:Below (w.alloc (.cells a t)).heap.size (w.alloc (.cells a t)) b)(k:Nat):b.cell? ⟨w.heap.size,k,none⟩=a[k]?:=
 Lib.cell_of_heap ((c.block _ (Array.getElem?_eq_some_iff.1 (aH w _)).1).trans (aH w _)) k
theorem Qn (y m:Nat)(a:m≠2)(hm:m<=12)(w:ax):
  aA ag 204 #[.int .i64 y,.int .i64 m] w λe w'=>e=.returned (.int .i64 (lQ y m:Nat))/\Below w.heap.size w w':=by
 have b:PLift (lQ y m=[0,31,28,31,30,31,30,31,31,30,31,30,31].getD m 0):=⟨by unfold lQ;rw[gZ (λh=>a h.1)]⟩;have c:m=0\/m=1\/m=3\/m=4\/m=5\/m=6\/m=7\/m=8\/m=9\/m=10\/m=11\/m=12:=iE
 clear hm a;rcases c with rfl|rfl|rfl|rfl|rfl|rfl|rfl|rfl|rfl|rfl|rfl|rfl
 all_goals
  go_enter aC,aB;go_wp2;go_ret;exact⟨by rw[b.1];rfl,iW w _⟩
theorem Qo (y:Nat)(hy:y<=20000)(w:ax):
  aA ag 204 #[.int .i64 y,.int .i64 (2:Nat)] w λe w'=>e=.returned (.int .i64 (lQ y 2:Nat))/\Below w.heap.size w w':=by
 have c:=ae (λW=>Ql y hy W);clear hy;cases a:vX y with
 |false=>
  have d:PLift (lQ y 2=28):=⟨by unfold lQ;rw[gZ (by rw[a];exact λh=>by cases h.2)];rfl⟩;rw[a]at c;clear a;go_enter aC,aB
  go_wp2_with(go_at_call 217;refine(c.1 _).mono ?_;rintro e g ⟨rfl,b⟩;have hc:g.cell? ⟨w.heap.size,2,none⟩=some (.int .i64 28):=Qm b 2;have f:=ae ((iW w _).trans (b.mono (iW w _).size));clear b)
  go_ret;exact⟨by rw[d.1];rfl,f.1⟩
 |true=>
  have d:PLift (lQ y 2=29):=⟨by unfold lQ;rw[gY ⟨rfl,a⟩]⟩;rw[a]at c;clear a;go_enter aC,aB
  go_wp2_with(go_at_call 217;refine(c.1 _).mono ?_;rintro e g ⟨rfl,b⟩;have f:=ae ((iW w _).trans (b.mono (iW w _).size));clear b)
  go_ret;exact⟨by rw[d.1];rfl,f.1⟩
theorem Ih (y m:Nat)(hy:y<=20000)(hm:m<=12)(w:ax):
  aA ag 204 #[.int .i64 y,.int .i64 m] w λe w'=>e=.returned (.int .i64 (lQ y m:Nat))/\Below w.heap.size w w':=by
 by_cases h:m=2
 ·subst h
  exact Qo y hy w
 ·exact Qn y m h hm w
def jU (y:Nat):Nat->Nat
 |0=>0
 |k+1=>jU y k+lQ y (k+1)
def nI (y m d:Nat):Bool:=(decide (1<=m)&&decide (m<=12))&&(decide (1<=d)&&decide (d<=lQ y m))
def sJ (y m d:Nat):Int:=kD y+(d:Int) - 1 - 719528+(jU y (m - 1):Int)
theorem Bv (y m:Nat):lQ y m<=31:=by
 unfold lQ;split
 ·decide
 ·match m with
  |0|1|2|3|4|5|6|7|8|9|10|11|12=>decide
  |_+13=>simp
theorem Bz (y:Nat):∀k,jU y k<=31*k
 |0=>az _
 |k+1=>by have:=Bz y k;have:=Bv y (k+1);unfold jU;omega
theorem Ej (y:Nat)(hy:y<=20000): -1000<=kD y/\kD y<=8000000:=by unfold kD;omega
theorem Ii (y m d:Nat)(hy:y<=9999)(hm:m<=99)(hd:d<=99)(w:ax):
  aA ag 187 #[.int .i64 y,.int .i64 m,.int .i64 d] w λe w'=>e=.returned (.tuple #[.int .i64 (if nI y m d then sJ y m d else 0),.int .i64 (if nI y m d then 0 else 13)])/\Below w.heap.size w w':=by
 have ad:¬(y:Int)<0:=iE
 have ai:¬(9999:Int)<(y:Int):=iE
 by_cases b:1<=m/\m<=12
 ·have A:¬(m:Int)<1:=iE
  have O:¬(12:Int)<(m:Int):=iE
  by_cases c:1<=d
  ·have d0:¬(d:Int)<1:=iE
   have o:=ae (λ(k:Nat) (B:k<=12) W=>Ih y k iE B W);have p:=ae (o.1 m b.2);obtain⟨q,f⟩:=iC (lQ y m);rw[f]at p;by_cases h:d<=q
   ·have P:¬(q:Int)<(d:Int):=iE
    have a:nI y m d=true:=(by unfold nI;rw[f];simp[b,c,h]);have C:=ae (λW=>first_any y iE W);have Q:=ae (λk (B:1<=k)=>show jU y k=jU y (k - 1)+lQ y k by obtain⟨j,rfl⟩:∃j,k=j+1:=⟨k - 1,iE⟩;rfl);have D:=ae (iJ (Bz y) (Bv y));have E:=ae (show sJ y m d=kD y+(d:Int) - 1 - 719528+(jU y (m - 1):Int)from rfl);obtain⟨F,hF⟩:=iC (kD y);obtain⟨R,T⟩:=Ej y iE;rw[hF]at C R T E;have G:=ae (iJ b (iJ c hd));have ak:(d:Int)<=99:=iE;have al:(0:Int)<=(d:Int):=iE;rw[a];clear a f h hF b c hd hm hy;go_enter aj,ah
    go_wp2_with(first
     |(go_at_call 204;refine(p.1 _).mono ?_;rintro e U ⟨rfl,g⟩;have i:=ae g;clear g)
     |(go_at_call 205;refine(C.1 _).mono ?_;rintro e am ⟨rfl,H⟩;have V:=ae H;clear H))
    go_loopw [8,9] (λX r wr=>∃k:Nat,r=.int .i64 k/\X=.int .i64 (F+(d:Int) - 1 - 719528+(jU y (k - 1):Int))/\1<=k/\k<=m/\Below w.heap.size w wr) (λ_ r _=>m - (intOf r).toNat)
    case atStart=>exact⟨1,rfl,by simp[jU],az _,G.1.1.1,i.1.trans (V.1.mono i.1.size)⟩
    case round=>
     obtain⟨k,rfl,rfl,l,s,t⟩:=hrel;have u:=ae t;have an:=ae (iJ l s);have hs:=D.1.1 (k - 1);have v:=D.1.2 k;have I:=G.1.1.2;have n:=Q.1 k l;have J:=ae (o.1 k iE);obtain⟨L,x⟩:=iC (lQ y k);rw[x]at n v J;have Y:=ae n;obtain⟨S,hS⟩:=iC (jU y (k - 1));rw[hS]at hs⊢;have K:=ae hS;have ao:(S:Int)<=400:=iE;have ap:(0:Int)<=(S:Int):=iE;have aq:(L:Int)<=31:=iE;have ar:(0:Int)<=(L:Int):=iE;have av:(k:Int)<=12:=iE;have aw:(1:Int)<=(k:Int):=iE;by_cases z:k<m
     ·have Z:(k:Int)<(m:Int):=iE
      have M:=ae z;clear t l s hs v I n x hS z
      go_wp2_with(go_at_call 204;refine(J.1 _).mono ?_;rintro e w3 ⟨rfl,N⟩;have aa:=ae N;clear N)
      go_roundw
      case rel=>exact⟨k+1,by go_num,by rw[show k+1 - 1=k by omega,Y.1,K.1];congr 1;push_cast;omega,iE,M.1,u.1.trans (aa.1.mono u.1.size)⟩
      case measure=>have:=M.1;simp[intOf];omega
     ·have Z:¬(k:Int)<(m:Int):=iE
      have ab:=ae (show k=m by omega);clear t l s hs v I n x hS z;go_wp2;go_ret2;have hv:sJ y m d=F+(d:Int) - 1 - 719528+(S:Int):=(by rw[E.1,<-ab.1,K.1]);exact⟨by rw[hv];rfl,u.1⟩
   ·have P:(q:Int)<(d:Int):=iE
    have a:nI y m d=false:=(by unfold nI;rw[f];simp[b,c,h]);rw[a];clear a f h o;go_enter aj,ah
    go_wp2_with(go_at_call 204;refine(p.1 _).mono ?_;rintro e U ⟨rfl,g⟩;have i:=ae g;clear g)
    go_ret2;exact⟨rfl,i.1⟩
  ·have d0:(d:Int)<1:=iE
   have a:nI y m d=false:=(by unfold nI;simp[c]);rw[a];clear a c;go_enter aj,ah;go_wp2;go_ret2;exact⟨rfl,af _ _⟩
 ·have a:nI y m d=false:=by
   unfold nI;by_cases ha:1<=m
   ·have:¬m<=12:=λac=>b ⟨ha,ac⟩
    simp[this]
   ·simp[ha]
  rw[a];by_cases ha:1<=m
  ·have A:¬(m:Int)<1:=iE
   have O:(12:Int)<(m:Int):=iE;clear a b ha;go_enter aj,ah;go_wp2;go_ret2;exact⟨rfl,af _ _⟩
  ·have A:(m:Int)<1:=iE
   clear a b ha;go_enter aj,ah;go_wp2;go_ret2;exact⟨rfl,af _ _⟩
theorem Qp (y:Nat):(vX y=true/\y%4=0/\(y%100≠0\/y%400=0))\/(vX y=false/\(y%4≠0\/(y%100=0/\y%400≠0))):=by
 unfold vX;by_cases a:y%4=0
 ·by_cases b:y%100=0
  ·by_cases c:y%400=0
   ·exact .inl ⟨by simp[a,b,c],a,.inr c⟩
   ·exact .inr ⟨by simp[a,b,c],.inr ⟨b,c⟩⟩
  ·exact .inl ⟨by simp[a,b],a,.inl b⟩
 ·exact .inr ⟨by simp[a],.inl a⟩
theorem Qq (y:Nat):(jU y 12:Int)=kD (y+1) - kD y:=by
 rcases Qp y with⟨h,a,b⟩|⟨h,a⟩
 ·have e:jU y 12=366:=by simp[jU,lQ,h]
  rw[e];unfold kD;omega
 ·have e:jU y 12=365:=by simp[jU,lQ,h]
  rw[e];unfold kD;omega
theorem Em (P:Nat->Prop)[DecidablePred P]:∀N,P 0->¬P N->∃k,k<N/\P k/\¬P (k+1)
 |0,a,b=>absurd a b
 |N+1,a,b=>by
  by_cases h:P N
  ·exact⟨N,Nat.lt_succ_self _,h,b⟩
  ·obtain⟨k,c,d⟩:=Em P N a h
   exact⟨k,Nat.lt_succ_of_lt c,d⟩
theorem Qr (y:Nat):kD y+365<=kD (y+1):=by unfold kD;omega
theorem Ij {y z:Nat}(h:y<=z):kD y<=kD z:=by
 induction z with
 |zero=>
  have he:y=0:=iE
  rw[he];exact Int.le_refl _
 |succ z a=>
  by_cases he:y=z+1
  ·subst he;exact Int.le_refl _
  ·have:=a iE
   have:=Qr z;omega
theorem Qs (y:Nat){a b:Nat}(h:a<=b):jU y a<=jU y b:=by
 induction b with
 |zero=>
  have he:a=0:=iE
  rw[he];exact az _
 |succ b c=>
  by_cases he:a=b+1
  ·subst he;exact az _
  ·have:=c iE
   show jU y a<=jU y b+lQ y (b+1);omega
theorem Qu (n:Nat)(hn:n<3652425):∃Y,Y<=9999/\kD Y<=(n:Int)/\(n:Int)<kD (Y+1)/\n/366<=Y:=by
 have a:kD 0=0:=iG
 have e1:kD 10000=3652425:=iG
 obtain⟨Y,c,b,d⟩:=Em (λy=>kD y<=(n:Int)) 10000 (by simp only[a];omega) (by simp only[e1];omega);refine⟨Y,iE,b,iE,?_⟩
 have e:kD (n/366)<=(n:Int):=by unfold kD;omega
 rcases Nat.lt_or_ge Y (n/366)with h|h
 ·have:=Ij (show Y+1<=n/366 from h)
  omega
 ·exact h
theorem Qv (y n:Nat)(hn:n<jU y 12):∃M,M<12/\jU y M<=n/\n<jU y (M+1):=by obtain⟨M,a,b,c⟩:=Em (λm=>jU y m<=n) 12 (aI _) iE;exact⟨M,a,b,iE⟩
theorem Qw {fn:Func}{a b c d:Tmp}(h:fn.results=#[.tmp a,.tmp b,.tmp c,.tmp d])(tmps:Array Value)(P:Program)(w:ax):
  (results fn tmps).run P w=.ok (.tuple #[tmps.getD a undef,tmps.getD b undef,tmps.getD c undef,tmps.getD d undef]) w:=by
 simp[results,h]
theorem Qx (n Y M:Nat)(hn:n<3652425)(E:Y<=9999)(G:kD Y<=(n:Int))(H:(n:Int)<kD (Y+1))(I:n/366<=Y)(k:Nat)(J:(n:Int)=kD Y+(k:Int))(K:M<12)(N:jU Y M<=k)(O:k<jU Y (M+1))(w:ax):
  aA ag 188 #[.int .i64 ((n:Int) - 719528)] w λe w'=>e=.returned (.tuple #[.int .i64 (Y:Nat),.int .i64 (M+1:Nat),.int .i64 (k - jU Y M+1:Nat),.int .i64 0])/\Below w.heap.size w w':=by
 have d0:¬(n:Int) - 719528< -719528:=iE
 have ap:¬(2932896:Int)<(n:Int) - 719528:=iE
 have aq:(n:Int)<=3652425:=iE
 have aa:Int.tdiv (n:Int) 366=((n/366:Nat):Int):=rfl;have P:=ae (λ(y:Nat) (hy:y<=20000) W=>first_any y hy W);have ab:=ae (λ(m:Nat) (hm:m<=12) W=>Ih Y m iE hm W);have c:=ae (iJ E (iJ G (iJ H I)));have b:=ae (iJ K (iJ N (iJ O (iJ J hn))));obtain⟨l,s⟩:=iC (n/366);rw[s]at aa;have ac:=ae s;have ar:(l:Int)<=10000:=iE
 clear E G H I K N O J hn s;go_enter Tryz.func188,Tryz.ntmps188;go_wp2
 go_loopw [7] (λt wr=>∃y:Nat,t=.int .i64 y/\y<=Y/\Below w.heap.size w wr) (λt _=>Y - (intOf t).toNat)
 case atStart=>exact⟨l,by go_num,by rw[<-ac.1];exact c.1.2.2.2,af _ _⟩
 case round=>
  obtain⟨y,rfl,Q,d⟩:=hrel;have o:=ae d;have av:(y:Int)<=9999:=by have:=c.1.1;omega
  have aw:(0:Int)<=(y:Int):=iE
  have h:=ae (λW=>P.1 (y+1) (by have:=c.1.1;omega) W);rw[show((y+1:Nat):Int)=(y:Int)+1 from rfl]at h;obtain⟨F,hF⟩:=iC (kD (y+1));rw[hF]at h;by_cases a:y<Y
  ·have R:F<=(n:Int):=by rw[<-hF];exact Int.le_trans (Ij a) c.1.2.1
   have f:=ae a;clear d hF a Q
   go_wp2_with(go_at_call 205;refine(h.1 _).mono ?_;rintro e w3 ⟨rfl,i⟩;have p:=ae i;clear i)
   go_roundw
   case rel=>exact⟨y+1,by go_num,f.1,o.1.trans (p.1.mono o.1.size)⟩
   case measure=>have:=f.1;simp[intOf];omega
  ·have he:y=Y:=iE
   subst he;have R:¬F<=(n:Int):=(by rw[<-hF];have:=c.1.2.2.1;omega);have u:=ae (λW=>P.1 y (by have:=c.1.1;omega) W);obtain⟨v,S⟩:=iC (kD y);obtain⟨T,U⟩:=Ej y (by have:=c.1.1;omega);have ad:(n:Int) - v=(k:Int):=(by have:=b.1.2.2.2.1;omega);rw[S]at u T U;clear d hF a Q S
   go_upto_region 7 with(go_at_call 205;refine(h.1 _).mono ?_;rintro e w3 ⟨rfl,i⟩;have p:=ae (o.1.trans (i.mono o.1.size));clear i)
   clear h R
   go_upto_region 8 with(go_at_call 205;refine(u.1 _).mono ?_;rintro e aD ⟨rfl,V⟩;have ai:=ae (p.1.trans (V.mono p.1.size));clear V)
   clear u ad T U;go_wp2
   go_loopw [6,8] (λak x wr=>∃m:Nat,x=.int .i64 (m+1:Nat)/\ak=.int .i64 (k - jU y m:Nat)/\m<=M/\Below w.heap.size w wr) (λ_ x _=>M+1 - (intOf x).toNat)
   case atStart=>exact⟨0,rfl,rfl,aI _,ai.1⟩
   case round=>
    obtain⟨m,rfl,rfl,X,d⟩:=hrel;have z:=ae d;have A:=ae (λW=>ab.1 (m+1) (by have:=b.1.1;omega) W);have q:jU y (m+1)=jU y m+lQ y (m+1):=rfl;have B:=Bv y (m+1);have Z:k<400:=(by have C:=b.1.2.2.1;have al:=Bz y (M+1);have aE:=b.1.1;omega);obtain⟨L,D⟩:=iC (lQ y (m+1));rw[D]at A q B;obtain⟨r,hr⟩:=iC (k - jU y m);have aF:=ae (iJ q hr);have aG:(r:Int)<=400:=iE;have aL:(0:Int)<=(r:Int):=iE;have aM:(L:Int)<=31:=iE;have aR:(0:Int)<=(L:Int):=iE;have a0:(m:Int)<=12:=(by have:=b.1.1;omega);have a1:(0:Int)<=(m:Int):=iE;by_cases a:m<M
    ·have C:=Qs y (show m+1<=M from a)
     have am:(L:Int)<=(r:Int):=(by have:=b.1.2.1;omega);have f:=ae (iJ a (show r - L=k - jU y (m+1) by omega));have a2:(r:Int) - (L:Int)=((r - L:Nat):Int):=iE;rw[hr];clear d D a X q B Z hr C;have g:=z
     go_wp2_with(go_at_call 204;refine(A.1 _).mono ?_;rintro e an ⟨rfl,j⟩;have g:=ae (g.1.trans (j.mono g.1.size));clear j)
     go_roundw
     case rel=>exact⟨m+1,by go_num,by rw[f.1.2],f.1.1,g.1⟩
     case measure=>have:=f.1.1;simp[intOf];omega
    ·have he:m=M:=iE
     subst he;have am:¬(L:Int)<=(r:Int):=(by have C:=b.1.2.2.1;have al:=b.1.2.1;omega);have ao:=ae (show k - jU y m+1=r+1 by omega);rw[hr];clear d D a X q B Z hr
     go_wp2_with(go_at_call 204;refine(A.1 _).mono ?_;rintro e an ⟨rfl,j⟩;have g:=ae (z.1.trans (j.mono z.1.size));clear j)
     (try simp only[Exit.inBlock,Exit.then])
     refine bodyPost_ret (Qw rfl _ _ _) rfl ?_;exact⟨by rw[ao.1];rfl,g.1⟩
theorem Qy (n:Nat)(hn:n<3652425):∃Y M D:Nat,Y<=9999/\M<=12/\D<=31/\∀w:ax,
  aA ag 188 #[.int .i64 ((n:Int) - 719528)] w λe w'=>e=.returned (.tuple #[.int .i64 (Y:Nat),.int .i64 (M:Nat),.int .i64 (D:Nat),.int .i64 0])/\Below w.heap.size w w':=by
 obtain⟨Y,a,b,c,d⟩:=Qu n hn;obtain⟨k,f⟩:∃k:Nat,(n:Int)=kD Y+(k:Int):=⟨((n:Int) - kD Y).toNat,iE⟩;have j:=Qq Y;obtain⟨M,g,h,i⟩:=Qv Y k iE;have l:jU Y (M+1)=jU Y M+lQ Y (M+1):=rfl;have m:=Bv Y (M+1);exact⟨Y,M+1,k - jU Y M+1,a,iE,iE,λw=>Qx n Y M hn a b c d k f g h i w⟩
