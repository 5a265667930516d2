import Derived.Test.YthcalnnipjflkaaGreatDoorP40
open Go.Lib renaming hid -> ae
open List renaming length_drop -> af, length_append -> au, drop_eq_nil_of_le -> ax, length_cons -> aB, length_eq_zero_iff -> aC, length -> aK, length_nil -> aN
open Prod.mk renaming injEq -> ag
open Option renaming some -> ah, none -> ay, map_none -> aH, map_eq_some_iff -> aI
open Nat renaming strongRecOn -> aj, le_refl -> aO
open Bool renaming false -> az, false_eq_true -> aA, true -> aJ
set_option linter.all false
set_option maxHeartbeats 4000000
set_option maxRecDepth 100000
namespace Go.Proofs.YthcalnnipjflkaaGreatDoor
open Go.RowKit
open Go.Lib hiding intOf
abbrev yK:=Option (List (Int×Cx))×Int×Int
def sW (pp:List UInt8->Bool):Nat->List UInt8->Nat->List (Int×Cx)->yK
 |0,_,_,acc=>(ah acc,0,0)
 |n+1,l,a,acc=>
  if l.isEmpty then(ah acc,0,0)
  else if qN (iV 10 l)then
   match ou pp (iV 10 l)with
   |(ah c,_)=>sW pp n (l.drop ((iV 10 l).length+1)) (a+((iV 10 l).length+1)) (acc++[c])
   |(ay,k)=>(ay,a+k,4)
  else sW pp n (l.drop ((iV 10 l).length+1)) (a+((iV 10 l).length+1)) acc
theorem Jy (pp:List UInt8->Bool)(l:List UInt8):∀(b:List AK) (a:Nat) (c d:Cx) (x:Int),a<=l.length->b≠[]->jQ pp l b a c=(ah d,x)->a+1+b.length<=l.length
 |[],_,_,_,_,_,h,_=>absurd rfl h
 |K::b,a,c,d,x,ha,_,h=>by
  rw[zM]at h;split at h
  ·cases h
  split at h
  ·cases h
  split at h
  ·cases h
  split at h
  ·have e:=zK pp K (l.drop (a+1))
   rw[af]at e;cases b with
   |nil=>simp;omega
   |cons f b=>have:=Jy pp l (f::b) _ _ d x iE iH h;simp only[aB]at this⊢;omega
  ·cases h
theorem Uf (l:List UInt8){j:Nat}(a:j<15):qh l j≠[]/\6<=(wo j).length+1+(qh l j).length:=by
 rcases j with _|_|_|_|_|_|_|_|_|_|_|_|_|_|_|j
 case succ=>omega
 all_goals
  refine⟨?_,?_⟩
  ·unfold qh;simp[jc,oq]
  ·unfold qh;simp[jc,oq,wo]
theorem Ug {pp:List UInt8->Bool}{l:List UInt8}{d:Int×Cx}{x:Int}(h:ou pp l=(ah d,x)):6<=l.length:=by
 unfold ou at h;cases hf:wu (iV 32 l)with
 |none=>rw[hf]at h;cases h
 |some j=>rw[hf]at h;have b:=ig Prod.fst h;obtain⟨c,hc,-⟩:=aI.1 b;have a:=BO hf;obtain⟨e,f⟩:=Uf l a.1;have g:=Jy pp l (qh l j) (iV 32 l).length ⟨[],[],⟨#[]⟩⟩ c _ (qE 32 l) e (Prod.ext hc rfl);have i:=ig aK a.2;omega
theorem yL {l:List UInt8}(h:l.isEmpty=az):(l.drop ((iV 10 l).length+1)).length<l.length:=by
 rw[af];cases l with
 |nil=>cases h
 |cons x r=>simp;omega
theorem EP (pp:List UInt8->Bool):∀(n:Nat) (l:List UInt8) (a:Nat) (acc:List (Int×Cx)),(l=[]\/acc.length*7+l.length+2<=1792)->lY pp n l a acc=sW pp n l a acc
 |0,_,_,_,_=>rfl
 |n+1,l,a,acc,h=>by
  unfold lY sW;cases he:l.isEmpty with
  |true=>rfl
  |false=>
   have d:l≠[]:=λe=>by rw[e]at he;cases he
   have i:=h.resolve_left d;have hc:¬acc.length=256:=iE;have j:=qE 10 l
   have hd:∀q,l.drop ((iV 10 l).length+1)=[]\/(6<=(iV 10 l).length->q=acc.length+1->q*7+(l.drop ((iV 10 l).length+1)).length+2<=1792)/\(q=acc.length->q*7+(l.drop ((iV 10 l).length+1)).length+2<=1792):=by
    intro q;by_cases m:(iV 10 l).length+1<=l.length
    ·right
     rw[af];exact⟨λb f=>iE,λf=>iE⟩
    ·exact .inl (ax iE)
   simp only[aA,if_false,gZ hc];split
   ·cases g:ou pp (iV 10 l)with
    |mk o k=>
     cases o with
     |none=>rfl
     |some c=>
      simp only;refine EP pp n _ _ _ ?_;rcases hd (acc.length+1)with b|b
      ·exact .inl b
      ·exact .inr (by rw[au];exact b.1 (Ug g) rfl)
   ·refine EP pp n _ _ _ ?_
    rcases hd acc.length with b|b
    ·exact .inl b
    ·exact .inr (b.2 rfl)
theorem CB (pp:List UInt8->Bool)(n a:Nat)(acc:List (Int×Cx)):sW pp n [] a acc=(ah acc,0,0):=by cases n<;>rfl
theorem CE (pp:List UInt8->Bool):∀(n m:Nat) (l:List UInt8) (a:Nat) (acc:List (Int×Cx)),l.length<=n->l.length<=m->sW pp n l a acc=sW pp m l a acc
 |0,m,l,a,acc,hn,_=>by obtain rfl:l=[]:=aC.1 iE;rw[CB,CB]
 |n+1,0,l,a,acc,_,hm=>by obtain rfl:l=[]:=aC.1 iE;rw[CB,CB]
 |n+1,m+1,l,a,acc,hn,hm=>by
  unfold sW;cases he:l.isEmpty with
  |true=>rfl
  |false=>
   have hd:=yL he;simp only[aA,if_false];split
   ·split
    ·exact CE pp n m _ _ _ iE iE
    ·rfl
   ·exact CE pp n m _ _ _ iE iE
def PM (pp:List UInt8->Bool)(l:List UInt8)(a:Nat)(acc:List (Int×Cx)):yK:=sW pp l.length l a acc
theorem ER (pp:List UInt8->Bool)(a:Nat)(acc:List (Int×Cx)):PM pp [] a acc=(ah acc,0,0):=rfl
theorem yM (pp:List UInt8->Bool){l:List UInt8}(a:Nat)(acc:List (Int×Cx))(he:l.isEmpty=az):PM pp l a acc=(if qN (iV 10 l)then
   match ou pp (iV 10 l)with
   |(ah c,_)=>PM pp (l.drop ((iV 10 l).length+1)) (a+((iV 10 l).length+1)) (acc++[c])
   |(ay,k)=>(ay,a+k,4)
  else PM pp (l.drop ((iV 10 l).length+1)) (a+((iV 10 l).length+1)) acc):=by
 have hd:=yL he;unfold PM;obtain⟨n,hn⟩:∃n,l.length=n+1:=⟨l.length - 1,iE⟩
 conv=>lhs;rw[hn];unfold sW
 rw[he];simp only[aA,if_false];split
 ·split
  ·exact CE pp _ _ _ _ _ iE iE
  ·rfl
 ·exact CE pp _ _ _ _ _ iE iE
def zT (pp:List UInt8->Bool)(R:List UInt8)(b:Nat)(x:yK):yK:=match x.1 with|some acc=>PM pp R b acc|none=>x
theorem Uh (A R:List UInt8):iV 10 (A++10::R)=iV 10 A:=by
 unfold iV;rw[List.takeWhile_append];split
 ·rename_i h
  have a:List.takeWhile (λx=>x !=(10:UInt8)) A=A:=(List.takeWhile_prefix _).eq_of_length h;rw[a];simp
 ·rfl
theorem Jz (pp:List UInt8->Bool)(R:List UInt8):∀(n:Nat) (A:List UInt8) (a:Nat) (acc:List (Int×Cx)),A.length=n->PM pp (A++10::R) a acc=zT pp R (a+A.length+1) (PM pp A a acc):=by
 intro n
 induction n using aj with
 |_ n e=>
  intro A a acc hA;have f:(A++10::R).isEmpty=az:=by cases A<;>rfl
  rw[yM pp a acc f,Uh];by_cases c:A=[]
  ·subst c
   simp[iV,qN,zT,ER]
  ·have he:A.isEmpty=az:=by cases A with|nil=>exact absurd rfl c|cons _ _=>rfl
   rw[yM pp a acc he];have j:=qE 10 A
   have d:∀b,PM pp ((A++10::R).drop ((iV 10 A).length+1)) (a+((iV 10 A).length+1)) b=zT pp R (a+A.length+1) (PM pp (A.drop ((iV 10 A).length+1)) (a+((iV 10 A).length+1)) b):=by
    intro b;by_cases g:(iV 10 A).length+1<=A.length
    ·rw[List.drop_append_of_le_length g,e _ (by have:=yL he;omega) _ _ _ rfl]
     congr 1
     rw[af];omega
    ·have h:(iV 10 A).length=A.length:=iE
     have i:A.drop (A.length+1)=[]:=ax iE;rw[h,i,ER]
     have:(A++10::R).drop (A.length+1)=R:=by
      rw[<-List.drop_drop,List.drop_left]
      rfl
     rw[this]
     rfl
   split
   ·split
    ·exact d _
    ·rfl
   ·exact d _
def zU (d:Nat)(p:List (Int×Cx))(x:yK):yK:=match x.1 with|some acc=>(ah (p++acc),x.2)|none=>(ay,x.2.1 +d,x.2.2)
theorem Ui (pp:List UInt8->Bool)(d:Nat)(p:List (Int×Cx)):∀(n:Nat) (l:List UInt8) (a:Nat) (acc:List (Int×Cx)),l.length=n->PM pp l (a+d) (p++acc)=zU d p (PM pp l a acc):=by
 intro n
 induction n using aj with
 |_ n b=>
  intro l a acc e;by_cases c:l=[]
  ·subst c;rfl
  ·have he:l.isEmpty=az:=by cases l with|nil=>exact absurd rfl c|cons _ _=>rfl
   have hd:=yL he;rw[yM pp _ _ he,yM pp a acc he,show a+d+((iV 10 l).length+1)=a+((iV 10 l).length+1)+d by omega];split
   ·split
    ·rw[List.append_assoc]
     exact b _ iE _ _ _ rfl
    ·simp only[zU,ag,true_and,and_true]
     omega
   ·exact b _ iE _ _ _ rfl
def qj:List UInt8:=[10,35,32,97,32,34,99,111,109,109,101,110,116,34]
def pK:List UInt8:=10::(qj++[10])
theorem Uj:cp qj=ay:=by unfold qj;simp[cp,dec,decodeN]
theorem Uk (pp:List UInt8->Bool)(a:Nat)(acc:List (Int×Cx)):PM pp qj a acc=(ah acc,0,0):=by rfl
theorem Ul (pp:List UInt8->Bool)(A B:List UInt8):PM pp (A++(pK++B)) 0 []=(match(PM pp A 0 []).1 with|some l=>zU (A.length+16) l (PM pp B 0 [])|none=>PM pp A 0 []):=by
 have e:A++(pK++B)=A++10::(qj++10::B):=by simp[pK]
 rw[e,Jz pp _ _ A 0 [] rfl];unfold zT;split
 ·rename_i acc b
  rw[Jz pp _ _ qj _ _ rfl,Uk];have a:0+A.length+1+qj.length+1=0+(A.length+16):=by unfold qj;simp
  have:=Ui pp (A.length+16) acc _ B 0 [] rfl;rw[List.append_nil]at this;simp only[zT,a,this]
 ·rfl
theorem Um (A B:List UInt8):cp (A++(pK++B))=(match cp A with|some k=>ah k|none=>(cp B).map (·+(A.length+16))):=by
 have e:A++(pK++B)=A++10::(qj++10::B):=by simp[pK]
 rw[e,Jv _ _ A rfl];cases cp A with
 |some k=>rfl
 |none=>
  rw[Jw,Jv _ _ qj rfl,Uj];simp only[Jw,Option.map_map]
  congr 1
  funext x
  simp[qj];omega
theorem CG (pp:List UInt8->Bool)(l:List UInt8)(h:l.length<=1616):jT pp l=(match cp l with|some n=>(ay,(n:Int),11)|none=>PM pp l 0 []):=by
 unfold jT;rw[gZ iE];cases cp l with
 |some n=>rfl
 |none=>exact EP pp _ _ _ _ (.inr iI)
theorem JA (pp:List UInt8->Bool):∀(n:Nat) (l:List UInt8) (a:Nat) (acc:List (Int×Cx)),l.length=n->(∃L,PM pp l a acc=(ah L,0,0))\/(∃k:Int,PM pp l a acc=(ay,k,4)/\0<=k/\k<=a+l.length):=by
 intro n
 induction n using aj with
 |_ n f=>
  intro l a acc m;by_cases c:l=[]
  ·subst c;exact .inl ⟨_,rfl⟩
  ·have he:l.isEmpty=az:=by cases l with|nil=>exact absurd rfl c|cons _ _=>rfl
   have hd:=yL he;have o:=qE 10 l
   have e:∀b,(∃L,PM pp (l.drop ((iV 10 l).length+1)) (a+((iV 10 l).length+1)) b=(ah L,0,0))\/(∃k:Int,PM pp (l.drop ((iV 10 l).length+1)) (a+((iV 10 l).length+1)) b=(ay,k,4)/\0<=k/\k<=a+l.length):=by
    intro b;by_cases p:(iV 10 l).length+1<=l.length
    ·rcases f _ iE (l.drop ((iV 10 l).length+1)) (a+((iV 10 l).length+1)) b rfl with h|⟨k,g,i,j⟩
     ·exact .inl h
     ·rw[af]at j
      exact .inr ⟨k,g,i,iE⟩
    ·rw[ax iE]
     exact .inl ⟨_,rfl⟩
   rw[yM pp a acc he];split
   ·rcases Jc pp (iV 10 l)with⟨d,h⟩|⟨k,h,q⟩
    ·rw[h]
     exact e _
    ·rw[h]
     exact .inr ⟨_,rfl,iE,iE⟩
   ·exact e _
theorem Un:∀(n:Nat) (l:List UInt8) (k:Nat),l.length=n->cp l=ah k->k<=l.length:=by
 intro n
 induction n using aj with
 |_ n a=>
  intro l k b h;cases l with
  |nil=>unfold cp at h;cases h
  |cons c r=>
   have hw:=AU c r;have d:=DL c r;simp only[aB]at d b⊢;unfold cp at h;split at h
   ·obtain rfl:=Option.some.inj h;omega
   ·obtain⟨q,e,rfl⟩:=aI.1 h
    have:=a (r.drop ((dec (c::r)).2 - 1)).length (by rw[af];omega) _ q rfl e;rw[af]at this;omega
theorem Uo (pp:List UInt8->Bool):∀(n:Nat) (l:List UInt8) (a:Nat) (acc L:List (Int×Cx)) (y:Int×Int),l.length=n->PM pp l a acc=(ah L,y)->L.length<=acc.length+l.length:=by
 intro n
 induction n using aj with
 |_ n b=>
  intro l a acc L y d h;by_cases c:l=[]
  ·subst c
   rw[ER]at h;simp only[ag,Option.some.injEq]at h;rw[h.1];omega
  ·have he:l.isEmpty=az:=by cases l with|nil=>exact absurd rfl c|cons _ _=>rfl
   have hd:=yL he;rw[yM pp a acc he]at h;split at h
   ·split at h
    ·have:=b _ iE _ _ _ _ _ rfl h
     rw[au]at this;simp only[aB,aN]at this;omega
    ·simp at h
   ·have:=b _ iE _ _ _ _ _ rfl h
    omega
theorem JB (pp:List UInt8->Bool)(l:List UInt8)(h:l.length<=800)(L:List (Int×Cx))(y:Int×Int)(hp:jT pp l=(ah L,y)):L.length<=800:=by
 rw[CG pp l iE]at hp;cases hc:cp l with
 |some k=>rw[hc]at hp;simp at hp
 |none=>rw[hc]at hp;have:=Uo pp _ l 0 [] L y rfl hp;simp only[aN]at this;omega
theorem Ur (pp:List UInt8->Bool)(A B:List UInt8)(hA:A.length<=800)(i:B.length<=800):
  (
   (∃k,k<=B.length/\cp A=ay/\jT pp B=(ay,(k:Int),11)/\(jT pp A).2.2 ≠11/\jT pp (A++(pK++B))=(ay,((A.length+16+k:Nat):Int),11))\/
   (∃(k e:Int),e≠0/\(e=11\/(jT pp B).2.2 ≠11)/\jT pp A=(ay,k,e)/\jT pp (A++(pK++B))=(ay,k,e))\/
   (∃(l:List (Int×Cx)) (k e:Int),e≠0/\e≠11/\(0<=k/\k<=B.length)/\jT pp A=(ah l,0,0)/\jT pp B=(ay,k,e)/\jT pp (A++(pK++B))=(ay,k+((A.length+16:Nat):Int),e))\/
   (∃l m:List (Int×Cx),jT pp A=(ah l,0,0)/\jT pp B=(ah m,0,0)/\jT pp (A++(pK++B))=(ah (l++m),0,0))):=by
 have d:(A++(pK++B)).length<=1616:=by simp[pK,qj];omega
 rw[CG pp _ d,CG pp A iE,CG pp B iE,Um,Ul];have b:=JA pp _ A 0 [] rfl;have c:=JA pp _ B 0 [] rfl;cases j:cp A with
 |some k=>exact .inr (.inl ⟨k,11,iG,.inl rfl,rfl,rfl⟩)
 |none=>
  cases f:cp B with
  |some k=>
   refine .inl ⟨k,Un _ B k rfl f,rfl,rfl,?_,?_⟩
   ·rcases b with⟨L,h⟩|⟨k,h,-⟩<;>simp only[h]<;>decide
   ·simp only[Option.map_some,ag,true_and,and_true]
    omega
  |none=>
   rcases b with⟨L,h⟩|⟨k,h,-⟩
   ·rcases c with⟨M,a⟩|⟨k,a,g,n⟩
    ·refine .inr (.inr (.inr ⟨L,M,?_⟩))
     simp only[h,a,aH,zU,and_self]
    ·refine .inr (.inr (.inl ⟨L,k,4,iG,iG,⟨g,iE⟩,?_⟩))
     simp only[h,a,aH,zU,and_self]
   ·refine .inr (.inl ⟨k,4,iG,.inr ?_,?_⟩)
    ·rcases c with⟨L,a⟩|⟨o,a,-⟩<;>simp only[a]<;>decide
    ·simp only[h,aH,and_self]
theorem FZ (s:ByteArray)(w:World)(d:Env w)(hs:s.size<=65536)(o:Option (List (Int×Cx)))(at_ a:Int)(hr:jT tV s.data.toList=(o,at_,a)):
  Calls Tryz.prog 7 #[.string s] w λe w'=>∃v,e=.returned (.tuple #[v,.int .i64 at_,.int .i64 a])/\lM w.heap.size v (o.getD []) w'/\Below w.heap.size w w':=by
 have g:s.data.toList.length=s.size:=iH
 refine(parse_any tV s w d (by unfold maxLen;omega) (Ju (D:=65536) ZI _ _ iE)).mono ?_;rintro e w' ⟨f,v,b,c⟩;rw[hr]at b c;exact⟨v,b,c,f⟩
theorem ZJ (a b:ByteArray):(a++⟨#[10,10,35,32,97,32,34,99,111,109,109,101,110,116,34,10]⟩++b).data.toList=a.data.toList++(pK++b.data.toList):=by simp[ByteArray.data_append,pK,qj]
theorem ZK (a b:ByteArray):(a++⟨#[10,10,35,32,97,32,34,99,111,109,109,101,110,116,34,10]⟩++b).size=a.size+16+b.size:=by
 rw[ByteArray.size_append,ByteArray.size_append]
 rfl
theorem ZL (a b:ByteArray)(w:World)(ai:Env w)(ha:a.size<=maxLen)(bh:b.size<=maxLen):Calls Tryz.prog 3 #[.string a,.string b] w λe w'=>e=.returned (.bool aJ)/\Below w.heap.size w w':=by
 have u:=ae ai;unfold maxLen at ha bh;clear ai;by_cases hs:a.size<=800/\b.size<=800
 ·obtain⟨bi,bj⟩:=hs
  have ak:¬(800:Int)<(a.size:Int):=iE
  have bk:¬(800:Int)<(b.size:Int):=iE
  have bR:(a.size:Int)<=800:=iE
  have bS:(b.size:Int)<=800:=iE
  have v:=Ur tV a.data.toList b.data.toList (by simpa using bi) (by simpa using bj);have F:a.data.toList.length=a.size:=iH
  rw[<-ZJ,F]at v;obtain⟨bl,bm,O,P⟩:∃o x e,jT tV a.data.toList=(o,x,e):=⟨_,_,_,rfl⟩;obtain⟨bo,G,H,Q⟩:∃o x e,jT tV b.data.toList=(o,x,e):=⟨_,_,_,rfl⟩;obtain⟨I,R,g,S⟩:∃o x e,jT tV (a++⟨#[10,10,35,32,97,32,34,99,111,109,109,101,110,116,34,10]⟩++b).data.toList=(o,x,e):=⟨_,_,_,rfl⟩;rw[P,Q,S]at v;have T:=ae P;have U:=ae Q;have al:=ae S;have am:=ae v;clear P Q S v F
  have bp:Hid ((a++⟨#[10,10,35,32,97,32,34,99,111,109,109,101,110,116,34,10]⟩++b:ByteArray).size<=65536):=by show _<=_;rw[ZK];omega
  go_enter Tryz.func3,Tryz.ntmps3
  go_wp2_with fail
  refine(EN _ u.out).mono ?_;rintro e V ⟨rfl,p⟩;have q:=ae p;clear p
  go_wp2_with fail
  refine(FZ a V (u.out.below q.out) iE bl bm O T.out).mono ?_;rintro e W ⟨va,rfl,an,ao⟩;have ap:=ae an;have X:=ae ao;clear ao an
  go_wp2_with fail
  refine(FZ b W ((u.out.below q.out).below X.out) iE bo G H U.out).mono ?_;rintro e w3 ⟨vb,rfl,aq,ar⟩;have av:=ae aq;have J:=ae ar;clear ar aq
  go_wp2_with fail
  refine(FZ _ w3 (((u.out.below q.out).below X.out).below J.out) bp.out I R g al.out).mono ?_;rintro e i ⟨bq,rfl,aw,aD⟩;have aE:=ae aw;have Y:=ae aD;clear aD aw
  have s:Hid (Below w.heap.size w i):=by have d:=q.out;have c:=d.trans (X.out.mono d.size);have f:=c.trans (J.out.mono c.size);exact f.trans (Y.out.mono f.size)
  have v:=am.out;clear am;rcases v with⟨k,Z,aa,d,c,f⟩|⟨k,e,he,c,d,f⟩|⟨l,k,e,he,aF,⟨bX,aG⟩,d,c,f⟩|⟨l,m,d,c,f⟩
  ·simp only[ag]at d f
   obtain⟨rfl,rfl,rfl⟩:=d;obtain⟨rfl,rfl,rfl⟩:=f;have aL:(O !=11)=aJ:=(by simpa using c);have aM:(O==11)=az:=(by simpa using c);have aR:((((a.size+16+k:Nat):Int))==(a.size:Int)+16+(k:Int))=aJ:=iH;clear c;have C:b.data.toList.length=b.size:=iH;have aG:(k:Int)<=800:=iE;clear C;clear Z aa;go_wp2;go_ret;exact⟨rfl,s.out⟩
  ·simp only[ag]at d f
   obtain⟨rfl,rfl,rfl⟩:=d;obtain⟨rfl,rfl,rfl⟩:=f;have aL:(g !=0)=aJ:=(by simpa using he);have aR:(g==g)=aJ:=iH;have b0:(R==R)=aJ:=iH;by_cases D:H=11
   ·have a0:(H==11)=aJ:=by simpa using D
    have aM:(g !=11)=az:=by
     rcases c with c|c
     ·simpa using c
     ·exact absurd D c
    clear c he D;go_wp2;go_ret;exact⟨rfl,s.out⟩
   ·have a0:(H==11)=az:=by simpa using D
    clear c he D;go_wp2;go_ret;exact⟨rfl,s.out⟩
  ·simp only[ag]at d c f
   obtain⟨rfl,rfl,rfl⟩:=d;obtain⟨rfl,rfl,rfl⟩:=c;obtain⟨rfl,rfl,rfl⟩:=f;have C:b.data.toList.length=b.size:=iH;have b1:G<=800:=iE;clear C;have a0:(g==11)=az:=(by simpa using aF);have aL:(g !=0)=aJ:=(by simpa using he);have aM:(g==g)=aJ:=iH;have aR:(G+((a.size:Int)+16)==(a.size:Int)+16+G)=aJ:=iI;clear he aF aG;go_wp2;go_ret;exact⟨rfl,s.out⟩
  ·simp only[ag]at d c f
   obtain⟨rfl,rfl,rfl⟩:=d;obtain⟨rfl,rfl,rfl⟩:=c;obtain⟨rfl,rfl,rfl⟩:=f;have F:a.data.toList.length=a.size:=iH;have C:b.data.toList.length=b.size:=iH;have br:=JB tV _ iE _ _ T.out;have bs:=JB tV _ iE _ _ U.out;clear F C;have a1:Below W.heap.size W i:=J.out.trans (Y.out.mono J.out.size);obtain⟨r,K,a2,rA⟩:=ap.out.below a1;obtain⟨y,L,a3,rB⟩:=av.out.below Y.out;obtain⟨M,ab,a4,a5⟩:=aE.out;simp only[Option.getD_some]at K L ab;have a6:r.length<=800:=(by have:=ig aK K;simp at this;omega);have a7:y.length<=800:=(by have:=ig aK L;simp at this;omega);have ac:=ae a6;have NB:=ae a7;have z:=ae (And.intro a2 rA);have A:=ae (And.intro a3 rB);have E:=ae (And.intro a4 a5)
   have a8:Hid (M.map (λm=>(m.op,m.cx))=(r++y).map (λm=>(m.op,m.cx))):=by show _=_;rw[ab,List.map_append,K,L]
   clear br bs K L ab a6 a7 a2 rA a3 rB a4 a5 a1 ap av aE T U al
   go_wp2_with(at_builtin;(refine Js (B:=i.heap.size) (n:=0) (xs:=[]) _ (by rfl) _ _ rfl rfl (TV (aO _)) r rfl (World.ownsRow.alloc z.out.1 _) ?c1 (Nat.zero_le _) ?c2 ?c3 ?_))
   case c1=>exact λm hm=>⟨Cm (z.out.2 m hm).1,Cm (z.out.2 m hm).2⟩
   case c2=>have:=ac.out;omega
   case c3=>simp
   intro b2 bv a9 ba _;have bb:=ae a9;have ad:Hid (Below i.heap.size i bv):=((Below.refl _ i).alloc (aO _) _).trans ba;clear a9 ba
   go_wp2_with(at_builtin;(refine Js (B:=i.heap.size) (n:=r.length) (xs:=r.flatMap CM.cells) _ (by rfl) _ _ rfl rfl bb.out y rfl (oz A.out.1 ad.out) ?d1 ?d2 ?d3 ?d4 ?_))
   case d1=>exact λm hm=>⟨Cm (A.out.2 m hm).1,Cm (A.out.2 m hm).2⟩
   case d2=>have:=ac.out;omega
   case d3=>have:=NB.out;omega
   case d4=>exact ad.out.size
   intro bE t N bc _;have j:Hid (Below i.heap.size i t):=ad.out.trans bc;rw[<-au,<-List.flatMap_append]at N
   have bd:Hid (xy bE (r++y) t):=Jr N (λm hm=>by
    rcases List.mem_append.1 hm with h|h
    ·exact⟨_,oz (z.out.2 m h).1 j.out,oz (z.out.2 m h).2 j.out⟩
    ·exact⟨_,oz (A.out.2 m h).1 j.out,oz (A.out.2 m h).2 j.out⟩)
   have be:Hid (xy bq M t):=Jr (oz E.out.1 j.out) (λm h=>⟨_,oz (E.out.2 m h).1 j.out,oz (E.out.2 m h).2 j.out⟩);obtain⟨bf,bg,bL,-⟩:=zS N;obtain⟨I,ct,bM,-⟩:=zS E.out.1;subst bL bM;clear N bc
   have bN:PLift (Calls Tryz.prog 8 #[.slice I M.length ct,.slice bf (r.length+y.length) bg] t λe w'=>e=.returned (.bool aJ)/\Below t.heap.size t w'):=⟨by have h:=TU I bf ct bg M (r++y) t be.out bd.out a8.out;rw[au]at h;exact h⟩
   clear be bd a8 z A E ac NB bb
   go_wp2_with(go_at_call 8;refine(bN.1).mono ?_;rintro e b3 ⟨rfl,bO⟩)
   go_ret;exact⟨rfl,(s.out.trans (j.out.mono s.out.size)).trans (bO.mono (Nat.le_trans s.out.size j.out.size))⟩
 ·by_cases d:a.size<=800
  ·have ak:¬(800:Int)<(a.size:Int):=iE
   have bk:(800:Int)<(b.size:Int):=iE;clear hs d;go_enter Tryz.func3,Tryz.ntmps3
   go_wp2_with(go_at_call 6;refine(EN _ u.out).mono ?_;rintro e V ⟨rfl,p⟩;have q:=ae p;clear p)
   go_ret;exact⟨rfl,q.out⟩
  ·have ak:(800:Int)<(a.size:Int):=iE
   clear hs d;go_enter Tryz.func3,Tryz.ntmps3
   go_wp2_with(go_at_call 6;refine(EN _ u.out).mono ?_;rintro e V ⟨rfl,p⟩;have q:=ae p;clear p)
   go_ret;exact⟨rfl,q.out⟩
end Go.Proofs.YthcalnnipjflkaaGreatDoor
