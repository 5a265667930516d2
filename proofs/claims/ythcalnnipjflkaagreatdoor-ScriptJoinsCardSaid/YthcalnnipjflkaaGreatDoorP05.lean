import Derived.Test.YthcalnnipjflkaaGreatDoorP04
import Derived.WalkLawsBesides
import Derived.BigQuiet
import Derived.Deep.QuietTactic
import Derived.IntWalk
import Derived.Laws.Closers25b
import Derived.Outline
import Derived.Deep.OwnRows
import Derived.Lib.Bytealg
import Derived.Test.YthcalnnipjflkaaGreatDoorRows
open Bool renaming false -> ae, true -> ay, and_assoc -> bD
open Go.Lib renaming hid -> af, cell_of_heap -> aH, alloc_old -> aO, frozen_of_heap -> bn, indexByte_some -> bJ, indexByte_ge -> bU
open Option renaming some -> ag, none -> aj
open List renaming getElem?_eq_getElem -> ah, take_succ_eq_append_getElem -> au, replicate -> aA, getD_eq_getElem?_getD -> aB, take_length -> aI, getElem_mem -> aK, foldl_append -> aT, all_append -> bH, foldl_cons -> bI, mem_cons -> bK, map_set -> bY
open Array renaming getElem?_eq_some_iff -> ax, getElem?_modify -> aV, replicate -> bz
open Go renaming World -> az, Value -> aQ, heap_alloc_new -> aY, Calls -> bu
open Nat renaming not_lt_zero -> aC, zero_le -> aP, le_refl -> aU, le_trans -> bG, add_assoc -> bP, add_comm -> bW
open Int renaming eq_ofNat_of_zero_le -> aJ, toNat_natCast -> bF, lt_or_le -> bT
open Go.Proofs.Tryz renaming prog -> aN, ntmps118 -> bQ, ntmps30 -> bV, func118 -> bZ, func30 -> cu
open Go.Value renaming bool -> aS, int -> cZ
open Go.World renaming block_lt_of_cell? -> aW, setCell -> aX, grownBy_alloc -> bC
open Go.RowKit renaming Below -> aZ
set_option linter.all false
set_option maxHeartbeats 4000000
set_option maxRecDepth 100000
namespace Go.Proofs.YthcalnnipjflkaaGreatDoor
open Go.RowKit
open Go.Lib hiding intOf
theorem AQ {k:IntKind}{a b:Int}(h:a=b):Ending.returned (.int k a)=.returned (.int k b):=by rw[h]
theorem lh {a b:Bool}(h:a=b):Ending.returned (.bool a)=.returned (.bool b):=by rw[h]
theorem ext_list {a b:ByteArray}(h:a.data.toList=b.data.toList):a=b:=by cases a;cases b;simp at h;subst h;rfl
def iV (c:UInt8)(l:List UInt8):List UInt8:=l.takeWhile (·!=c)
def rY (c:UInt8)(l:List UInt8):List UInt8:=(l.dropWhile (·!=c)).drop 1
theorem Nk:∀(l:List UInt8) (c:UInt8),c∉l->indexByte l c= -1:=by
 intro l c h;rcases bT (indexByte l c) 0 with a|a
 ·have:=bU l c;omega
 ·obtain⟨n,hn⟩:=aJ a
  have:=(bJ (l:=l) (c:=c) (o:=n) hn).1;exact absurd (List.mem_of_getElem? this) h
theorem F6:∀(l:List UInt8) (c:UInt8),c∈l->indexByte l c=(iV c l).length/\l[(iV c l).length]?=ag c:=by
 intro l c h
 have e:l[(iV c l).length]?=ag c/\∀k,k<(iV c l).length->l[k]?≠ag c:=by
  induction l with
  |nil=>cases h
  |cons x r d=>
   by_cases hx:x=c
   ·subst hx
    simp[iV]
   ·have hr:c∈r:=by
     rcases bK.1 h with h|h
     ·exact absurd h.symm hx
     ·exact h
    obtain⟨f,i2⟩:=d hr;have e:iV c (x::r)=x::iV c r:=(by simp[iV,hx]);rw[e];refine⟨by simpa using f,λk a=>?_⟩;cases k with
    |zero=>simpa using hx
    |succ k=>simp at a⊢;exact i2 k a
 refine⟨?_,e.1⟩;rcases bT (indexByte l c) 0 with b|b
 ·have g:indexByte l c= -1:=by have:=bU l c;omega
  exact absurd e.1 (indexByte_none g _)
 ·obtain⟨n,hn⟩:=aJ b
  obtain⟨i,j2⟩:=bJ (l:=l) (c:=c) (o:=n) hn;rw[hn]
  have:n=(iV c l).length:=by
   rcases Nat.lt_trichotomy n (iV c l).length with h|h|h
   ·exact absurd i (e.2 n h)
   ·exact h
   ·exact absurd e.1 (j2 _ h)
  rw[this]
theorem zf (c:UInt8)(l:List UInt8):l.take (iV c l).length=iV c l:=by
 induction l with
 |nil=>rfl
 |cons x r a=>
  by_cases hx:x=c
  ·subst hx;simp[iV]
  ·have e:iV c (x::r)=x::iV c r:=by simp[iV,hx]
   rw[e];simp[a]
theorem F7 (c:UInt8)(l:List UInt8)(h:c∉l):iV c l=l:=by
 induction l with
 |nil=>rfl
 |cons x r a=>
  simp only[bK,not_or]at h;have hx:x≠c:=λe=>h.1 e.symm
  have e:iV c (x::r)=x::iV c r:=by simp[iV,hx]
  rw[e,a h.2]
theorem DI (c:UInt8)(l:List UInt8):l.drop ((iV c l).length+1)=rY c l:=by
 induction l with
 |nil=>simp[iV,rY]
 |cons x r a=>
  by_cases hx:x=c
  ·subst hx;simp[iV,rY]
  ·have e:iV c (x::r)=x::iV c r:=by simp[iV,hx]
   rw[e];simp[rY,hx]at a⊢;exact a
theorem qE (c:UInt8)(l:List UInt8):(iV c l).length<=l.length:=(List.takeWhile_sublist _).length_le
theorem Nl (c:UInt8)(l:List UInt8)(h:c∈l):(iV c l).length<l.length:=by have:=(F6 l c h).2;exact(List.getElem?_eq_some_iff.1 this).1
theorem Np (s:ByteArray)(c:UInt8)(w:az)(hs:s.size<=maxLen)(h:c∈s.data.toList):
  bu aN 30 #[.string s,.string ⟨#[c]⟩] w λe w'=>e=.returned (.tuple #[.string ⟨(iV c s.data.toList).toArray⟩,.string ⟨(rY c s.data.toList).toArray⟩,.bool ay])/\∃n,w'=w.drewN n:=by
 obtain⟨a,d⟩:=F6 _ _ h;have i:(iV c s.data.toList).length<s.size:=by have:=Nl _ _ h;simpa using this
 have e1:s.extract 0 (iV c s.data.toList).length=⟨(iV c s.data.toList).toArray⟩:=ext_list (by simp[ByteArray.data_extract];exact zf _ _)
 have b:s.extract ((iV c s.data.toList).length+1) s.size=⟨(rY c s.data.toList).toArray⟩:=ext_list (by rw[ByteArray.data_extract];simp;rw[<-DI,List.take_of_length_le iH])
 unfold maxLen at hs;generalize hn:(iV c s.data.toList).length=n at*;have f:=af a;have g:=af e1;have E2:=af b;clear a d e1 b h hn;go_enter cu,bV
 go_wp2_with(go_at_call 39;refine(Tryz.stringslite_Index_one _ _ _).mono ?_;rintro e w' ⟨rfl,rfl⟩;rw[f.out])
 have b1:IntKind.i64.wrap ((n:Int)+1)=(n:Int)+1:=IntWalk.i64_in _ iE;have b2:((n:Int)+1).toNat=n+1:=iE
 have b3:(0:Int)<=(n:Int)+1:=iE
 have j:(n:Int)<=s.size:=iE
 have k:(n:Int)+1<=s.size:=iE
 go_quiet (fail)
 go_wp2;go_ret3;exact⟨by rw[g.out,E2.out];rfl,nq,rfl⟩
theorem Nq (s:ByteArray)(c:UInt8)(w:az)(h:c∉s.data.toList):
  bu aN 30 #[.string s,.string ⟨#[c]⟩] w λe w'=>e=.returned (.tuple #[.string s,.string ⟨#[]⟩,.bool ae])/\∃n,w'=w.drewN n:=by
 have a:=af (Nk _ _ h);clear h;go_enter cu,bV
 go_wp2_with(go_at_call 39;refine(Tryz.stringslite_Index_one _ _ _).mono ?_;rintro e w' ⟨rfl,rfl⟩;rw[a.out])
 go_ret3;exact⟨rfl,0,rfl⟩
def wO (c:UInt8)(l:List UInt8):Bool:=l.contains c
theorem Nr (s:ByteArray)(c:UInt8)(w:az)(hs:s.size<=maxLen):
  bu aN 30 #[.string s,.string ⟨#[c]⟩] w λe w'=>e=.returned (.tuple #[.string ⟨(iV c s.data.toList).toArray⟩,.string ⟨(rY c s.data.toList).toArray⟩,.bool (wO c s.data.toList)])/\∃n,w'=w.drewN n:=by
 by_cases h:c∈s.data.toList
 ·have e:wO c s.data.toList=ay:=by simpa[wO]using h
  rw[e];exact Np s c w hs h
 ·have e:wO c s.data.toList=ae:=by simpa[wO]using h
  have e1:s=⟨(iV c s.data.toList).toArray⟩:=ext_list (by rw[F7 _ _ h])
  have a:rY c s.data.toList=[]:=by rw[<-DI,F7 _ _ h];simp
  rw[e,a,<-e1];exact Nq s c w h
theorem wP (s:ByteArray)(c:UInt8)(w:az)(hs:s.size<=maxLen):
  bu aN 14 #[.string s,.string ⟨#[c]⟩] w λe w'=>e=.returned (.tuple #[.string ⟨(iV c s.data.toList).toArray⟩,.string ⟨(rY c s.data.toList).toArray⟩,.bool (wO c s.data.toList)])/\∃n,w'=w.drewN n:=by
 have a:=af hs;clear hs;go_enter Tryz.func14,Tryz.ntmps14
 go_wp2_with(go_at_call 30;refine(Nr _ _ _ a.out).mono ?_;rintro e w' ⟨rfl,n,rfl⟩)
 go_ret3;exact⟨rfl,_,rfl⟩
theorem zg (s:ByteArray)(w:az)(hs:s.size<=maxLen):
  bu aN 31 #[.string s] w λe w'=>e=.returned (.string ⟨(iV 32 s.data.toList).toArray⟩)/\∃n,w'=w.drewN n:=by
 have a:=af hs;clear hs;go_enter Tryz.func31,Tryz.ntmps31
 go_wp2_with(go_at_call 14;refine(wP _ 32 _ a.out).mono ?_;rintro e w' ⟨rfl,n,rfl⟩)
 go_ret;exact⟨rfl,_,rfl⟩
def tX (i c:Nat):Bool:=decide ((97<=c/\c<=122)\/(65<=c/\c<=90)\/c=95\/(i≠0/\48<=c/\c<=57))
def xU (l:List UInt8)(k:Nat):Prop:=∀i,i<k->tX i (l.getD i 0).toNat=ay
def vw:Nat->List UInt8->Bool
 |_,[]=>ay
 |i,c::r=>tX i c.toNat&&vw (i+1) r
def nameB (l:List UInt8):Bool:=vw 0 l&&!l.isEmpty&&decide (l.length<=64)
theorem DJ:∀(l:List UInt8) (i:Nat),vw i l=ay↔∀k,k<l.length->tX (i+k) (l.getD k 0).toNat=ay
 |[],i=>by simp[vw]
 |c::r,i=>by
  have b:=DJ r (i+1);simp only[vw,Bool.and_eq_true,b];constructor
  ·rintro⟨d,e⟩ k a
   cases k with
   |zero=>simpa using d
   |succ k=>have:=e k (by simpa using a);simpa[bP,bW 1 k]using this
  ·intro h
   refine⟨by simpa using h 0 iH,λk a=>?_⟩;have:=h (k+1) (by simpa using a);simpa[bP,bW 1 k]using this
theorem Ns {l:List UInt8}(h:xU l l.length):vw 0 l=ay:=(DJ l 0).2 (by simpa[xU]using h)
theorem Nu {l:List UInt8}{k:Nat}(a:k<l.length)(h:tX k (l.getD k 0).toNat=ae):nameB l=ae:=by
 have:vw 0 l=ae:=by
  cases e:vw 0 l
  ·rfl
  ·have:=(DJ l 0).1 e k a
   rw[Nat.zero_add,h]at this;cases this
 simp[nameB,this]
theorem Nv {l:List UInt8}{k:Nat}(h:xU l k)(a:tX k (l.getD k 0).toNat=ay):xU l (k+1):=by
 intro i hi;by_cases e:i=k
 ·subst e;exact a
 ·exact h i iE
theorem lC (s:ByteArray)(k:Nat)(h:k<s.size):s.data.toList.getD k 0=s[k]:=by rw[aB,ah (by simpa using h)];rfl
theorem cls (x:Int):
  (¬97<=x/\¬65<=x/\(x !=95)=ay/\¬48<=x/\True)\/(¬97<=x/\¬65<=x/\(x !=95)=ay/\48<=x/\x<=57)\/(¬97<=x/\¬65<=x/\(x !=95)=ay/\48<=x/\¬x<=57)
  \/(¬97<=x/\65<=x/\x<=90/\True/\True)\/(¬97<=x/\(65<=x/\¬x<=90)/\(x !=95)=ay/\48<=x/\¬x<=57)\/(¬97<=x/\65<=x/\¬x<=90/\(x !=95)=ae/\True)
  \/(97<=x/\x<=122/\True/\True/\True)\/((97<=x/\¬x<=122)/\(65<=x/\¬x<=90)/\(x !=95)=ay/\48<=x/\¬x<=57):=by
 simp only[and_true,bne_iff_ne,ne_eq,bne_eq_false_iff_eq];omega
theorem name_any (s:ByteArray)(w:az)(hs:s.size<=maxLen):
  bu aN 34 #[.string s] w λe w'=>e=.returned (.bool (nameB s.data.toList))/\w=w':=by
 unfold maxLen at hs;go_enter Tryz.func34,Tryz.ntmps34;go_wp2
 go_loop [7] (λi=>∃k:Nat,k<=s.size/\i=.int .i64 k/\xU s.data.toList k) (λi=>s.size - (intOf i).toNat)
 case atStart=>exact⟨0,aP _,rfl,λi hi=>absurd hi (aC i)⟩
 case round=>
  obtain⟨k,D,rfl,hn⟩:=hrel;by_cases t:k<s.size
  ·have u:=lC s k t
   have H:=af hn;have z:k<s.data.toList.length:=(by simpa using t);have o:tX k (s[k]).toNat=ae->Hid (nameB s.data.toList=ae):=λv=>Nu z (by rw[u];exact v)
   have p:tX k (s[k]).toNat=ay->Hid (xU s.data.toList (k+1)):=λv=>Nv hn (by rw[u];exact v)
   clear u hn
   have f:tX k (s[k]).toNat=decide ((97<=((s[k]).toNat:Int)/\((s[k]).toNat:Int)<=122)\/(65<=((s[k]).toNat:Int)/\((s[k]).toNat:Int)<=90)\/((s[k]).toNat:Int)=95\/(k≠0/\48<=((s[k]).toNat:Int)/\((s[k]).toNat:Int)<=57)):=by unfold tX;congr 1;apply propext;omega
   have g:((k:Int)==0)=ay/\k=0\/((k:Int)==0)=ae/\0<k:=by
    rcases Nat.eq_zero_or_pos k with h|h
    ·exact .inl ⟨by simp[h],h⟩
    ·exact .inr ⟨iI,h⟩
   have E:k+1<=s.size:=t;rcases cls ((s[k]).toNat:Int)with⟨j,m,a,c,n⟩|⟨j,m,a,c,n⟩|⟨j,m,a,c,n⟩|⟨j,m,a,c,n⟩|⟨j,⟨m,A⟩,a,c,n⟩|⟨j,m,a,c,n⟩|⟨j,m,a,c,n⟩|⟨⟨j,F⟩,⟨m,A⟩,a,c,n⟩
   case inr.inl=>
    rcases g with⟨g,q⟩|⟨g,q⟩
    ·have d:=o (by rw[f];exact iw (by simp at a;omega))
     clear o p q f;go_wp2;go_ret;exact⟨lh d.out.symm,rfl⟩
    ·have d:=p (by rw[f];exact iq (by first|omega|(simp at a;omega)|(simp at c;omega)))
     clear o p q f;go_wp2;go_round
     case rel=>exact⟨k+1,iE,by go_num,d.out⟩
     case measure=>simp[intOf];omega
   case inl|inr.inr.inl|inr.inr.inr.inr.inl|inr.inr.inr.inr.inr.inr.inr=>
    have d:=o (by rw[f];exact iw (by simp at a;omega));clear o p f;rcases g with⟨g,q⟩|⟨g,q⟩
    all_goals
     clear q;go_wp2;go_ret;exact⟨lh d.out.symm,rfl⟩
   all_goals
    have d:=p (by rw[f];exact iq (by first|omega|(simp at a;omega)|(simp at c;omega)));clear o p g f;go_wp2;go_round
    case rel=>exact⟨k+1,iE,by go_num,d.out⟩
    case measure=>simp[intOf];omega
  ·obtain rfl:k=s.size:=iE
   have d:=af (Ns (l:=s.data.toList) (by rw[show s.data.toList.length=s.size from by simp];exact hn));clear hn;by_cases y:s.size=0
   ·obtain rfl:s=⟨#[]⟩:=by
     have:s.data.size=0:=y;exact ext_list (by simp[Array.eq_empty_of_size_eq_zero this])
    go_wp2;go_ret;exact⟨rfl,rfl⟩
   ·have e1:s.data.toList.isEmpty=ae:=by
     cases h:s.data.toList with
     |nil=>exact absurd (by simpa using ig List.length h) y
     |cons x r=>rfl
    have e3:∀b:Bool,decide ((s.size:Int)<=64)=b->nameB s.data.toList=b:=by rintro b rfl;simp[nameB,d.out,e1];omega
    have B:=af e3;clear e3
    have C:¬s.toList=[]:=λe=>by have:=(toList_nil_iff_emptyBytes s).1 e;subst this;exact y rfl
    have G:(!s.toList.isEmpty)=ay:=by
     cases h:s.toList with
     |nil=>exact absurd h C
     |cons x r=>rfl
    go_wp2;go_ret;exact⟨lh (B.out _ rfl).symm,rfl⟩
theorem F8 (c:Int)(w:az):
  bu aN 41 #[.int .u8 c] w λe w'=>e=.returned (.int .i64 (indexByte [48,49,50,51,52,53,54,55,56,57,97,98,99,100,101,102] c.toNat.toUInt8))/\w=w':=by
 go_enter Tryz.func41,Tryz.ntmps41
 go_wp2_with(go_at_call 47;refine(Tryz.strings_IndexByte _ _ _).mono ?_;rintro e w' ⟨rfl,rfl⟩)
 go_ret;exact⟨rfl,rfl⟩
def rZ (w:az)(v:aQ)(l:List Int):Prop:=
 ∃a c,v=.slice a l.length c/\l.length<=140737488355328/\(l=[]\/∃b o,a=ag ⟨b,o,aj⟩/\∀(j:Nat) (x:Int),l[j]?=ag x->w.cell? ⟨b,o+j,aj⟩=ag (.int .i64 x))
structure Nd where
 kind:Int
 text:ByteArray
 ord:Bool
 keys:List Int
 items:List Int
def vH (w:az)(b o:Nat)(n:Nd):Prop:=
 ∃a c,w.cell? ⟨b,o,aj⟩=ag (.int .i64 n.kind)/\w.cell? ⟨b,o+1,aj⟩=ag (.string n.text)/\w.cell? ⟨b,o+2,aj⟩=ag (.bool n.ord)/\w.cell? ⟨b,o+3,aj⟩=ag a/\w.cell? ⟨b,o+4,aj⟩=ag c/\rZ w a n.keys/\rZ w c n.items
def jJ (w:az)(v:aQ)(N:List Nd):Prop:=
 ∃a c,v=.slice a N.length c/\N.length<=140737488355328/\(N=[]\/∃b o,a=ag ⟨b,o,aj⟩/\∀(i:Nat) (n:Nd),N[i]?=ag n->vH w b (o+i*5) n)
theorem iU {w w':az}(a:aZ w.heap.size w w'){b o:Nat}{v:aQ}(h:w.cell? ⟨b,o,aj⟩=ag v):w'.cell? ⟨b,o,aj⟩=ag v:=by rw[a.cell (p:=⟨b,o,aj⟩) (aW w _ h)];exact h
theorem rZ.below {w w':az}{v:aQ}{l:List Int}(h:rZ w v l)(e:aZ w.heap.size w w'):rZ w' v l:=by
 obtain⟨a,c,f,g,d⟩:=h;refine⟨a,c,f,g,?_⟩;rcases d with d|⟨b,o,d,i⟩
 ·exact .inl d
 ·exact .inr ⟨b,o,d,λj x k=>iU e (i j x k)⟩
theorem vH.below {w w':az}{b o:Nat}{n:Nd}(h:vH w b o n)(a:aZ w.heap.size w w'):vH w' b o n:=by obtain⟨c,d,e,f,g,i,j,k,l⟩:=h;exact⟨c,d,iU a e,iU a f,iU a g,iU a i,iU a j,k.below a,l.below a⟩
theorem jJ.below {w w':az}{v:aQ}{N:List Nd}(h:jJ w v N)(e:aZ w.heap.size w w'):jJ w' v N:=by
 obtain⟨a,c,f,g,d⟩:=h;refine⟨a,c,f,g,?_⟩;rcases d with d|⟨b,o,d,j⟩
 ·exact .inl d
 ·exact .inr ⟨b,o,d,λi n hi=>(j i n hi).below e⟩
theorem jl (w:az)(o:Obj):(w.alloc o).heap.size=w.heap.size+1:=iH
theorem iW (w:az)(o:Obj):aZ w.heap.size w (w.alloc o):=(Below.refl _ w).alloc (aU _) o
def jH (n:Nat)(l:List Int):Bool:=l.all λx=>decide (0<=x)&&decide (x<n)
def vI (N:List Nd)(root:Int):Bool:=(decide (0<=root)&&decide (root<N.length))&&N.all λn=>jH N.length n.keys&&jH N.length n.items
theorem GM {n k:Nat}{l:List Int}(h:k<l.length):jH n (l.take (k+1))=(jH n (l.take k)&&(decide (0<=l[k])&&decide (l[k]<n))):=by unfold jH;rw[au h,bH];simp
theorem Ox {n k:Nat}{N:List Nd}(h:k<N.length):((N.take (k+1)).all λx=>jH n x.keys&&jH n x.items)=(((N.take k).all λx=>jH n x.keys&&jH n x.items)&&(jH n N[k].keys&&jH n N[k].items)):=by rw[au h,bH];simp
theorem Oy {B:Nat}{w wr:az}(h:aZ B w wr)(c:B<=wr.heap.size)(a b:Obj):aZ B w ((wr.alloc a).alloc b):=(h.alloc c a).alloc iI b
theorem Oz {wr:az}{b:Nat}{x:Obj}(h:wr.heap[b]?=ag x)(a c:Obj):((wr.alloc a).alloc c).heap[b]?=ag x:=by have d:=(ax.1 h).1;rw[aO _ _ _ iI,aO _ _ _ d];exact h
theorem OC (w:az)(v:aQ)(N:List Nd)(root:Int)(h:jJ w v N):
  bu aN 101 #[.agg #[v,.int .i64 root]] w λe w'=>e=.returned (.bool (vI N root))/\aZ w.heap.size w w':=by
 have an:=af h;obtain⟨a,c,rfl,ao,S⟩:=h;have V:=af S;obtain⟨t,u⟩:=iC ((decide (0<=root)&&decide (root<(N.length:Int))));have W:=af u
 have X:(t=ae/\¬0<=root)\/(t=ae/\0<=root/\¬root<(N.length:Int))\/(t=ay/\0<=root/\root<(N.length:Int)):=by
  by_cases l:0<=root
  ·by_cases s:root<(N.length:Int)
   ·exact .inr (.inr ⟨by rw[<-u];simp[l,s],l,s⟩)
   ·exact .inr (.inl ⟨by rw[<-u];simp[s],l,s⟩)
  ·exact .inl ⟨by rw[<-u];simp[l],l⟩
 clear S u;rcases X with⟨rfl,l⟩|⟨rfl,l,s⟩|⟨rfl,l,s⟩
 all_goals
  go_enter Tryz.func101,Tryz.ntmps101;go_wp2
  go_loopw [3,24] (λg E wr=>∃i:Nat,i<=N.length/\E=.int .i64 i/\g=.bool ((decide (0<=root)&&decide (root<(N.length:Int)))&&(N.take i).all λx=>jH N.length x.keys&&jH N.length x.items)/\aZ w.heap.size w wr/\wr.heap[w.heap.size]?=ag (.cells #[.slice a N.length c,.int .i64 root] 117)) (λ_ E _=>N.length - (intOf E).toNat)
  case atStart=>exact⟨0,aP _,rfl,by rw[W.out];rfl,iW _ _,aY w _⟩
 all_goals
  case round=>
   obtain⟨i,hi,rfl,rfl,J,y⟩:=hrel;have F:=af J;have Y:=af y;have ap:wr.cell? ⟨w.heap.size,0,aj⟩=ag (.slice a N.length c):=(aH y 0).trans rfl;have aq:w.heap.size<wr.heap.size:=(ax.1 y).1;by_cases G:i<N.length
   ·have ar:(i:Int)<(N.length:Int):=iE
    have K:=Ox (n:=N.length) G;rcases V.out with z|⟨b,o,ha,U⟩
    ·exfalso;rw[z]at G;exact aC _ G
    subst ha;obtain⟨av,E,Z,aa,ab,aw,aD,H,I⟩:=(U i N[i] (ah G)).below F.out;generalize N[i]=n at Z aa ab H I K;obtain⟨acc,L⟩:=iC (((decide (0<=root)&&decide (root<(N.length:Int)))&&(N.take i).all λx=>jH N.length x.keys&&jH N.length x.items))
    have ac:Hid (((decide (0<=root)&&decide (root<(N.length:Int)))&&(N.take (i+1)).all λx=>jH N.length x.keys&&jH N.length x.items)=((acc&&jH N.length n.keys)&&jH N.length n.items)):=by show _=_;rw[K,<-bD,L,bD]
    rw[L];obtain⟨aE,aF,rfl,aG,H⟩:=H;obtain⟨aL,aM,rfl,aR,I⟩:=I;clear L K U J y;go_wp2
    go_loop [3,34] (λg B=>(B=.int .i64 0/\g=.bool acc)\/(B=.int .i64 1/\g=.bool (acc&&jH N.length n.keys))\/(B=.int .i64 2/\g=.bool ((acc&&jH N.length n.keys)&&jH N.length n.items))) (λ_ B=>2 - (intOf B).toNat)
    case atStart=>exact .inl ⟨rfl,rfl⟩
    case round=>
     rcases hrel with⟨rfl,rfl⟩|⟨rfl,rfl⟩|⟨rfl,rfl⟩
     ·have M:=H
      obtain⟨A,hA⟩:=iC acc;have ad:=af hA;rw[hA];clear hA;go_wp2
      go_loop [3,40] (λg m=>∃j:Nat,j<=n.keys.length/\m=.int .i64 j/\g=.bool (A&&jH N.length (n.keys.take j))) (λ_ m=>n.keys.length - (intOf m).toNat)
      case atStart=>exact⟨0,aP _,rfl,by simp[jH]⟩
      case round=>
       obtain⟨j,ai,rfl,rfl⟩:=hrel;by_cases k:j<n.keys.length
       ·have ak:(j:Int)<(n.keys.length:Int):=iE
        rcases M with z|⟨O,lo,P,p⟩
        ·exfalso;rw[z]at k;exact aC _ k
        ·subst P
         have hx:=p j n.keys[j] (ah k);have al:O<wr.heap.size:=aW wr _ hx;have q:=GM (n:=N.length) k;have am:=af p;generalize n.keys[j]=x at hx q;obtain⟨T,r⟩:=iC ((A&&jH N.length (n.keys.take j)))
         have Q:Hid ((A&&jH N.length (n.keys.take (j+1)))=(T&&(decide (0<=x)&&decide (x<(N.length:Int))))):=by show _=_;rw[q,<-bD,r]
         rw[r];clear q r p
         have f:∀R,(T&&(decide (0<=x)&&decide (x<(N.length:Int))))=R->Hid (aS R=.bool (A&&jH N.length (n.keys.take (j+1)))):=λR hR=>by show _=_;rw[Q.out,hR]
         cases T
         ·have d:=f ae rfl
          clear f;go_wp2;go_round
          case rel=>exact⟨j+1,iE,by go_num,d.out⟩
          case measure=>simp[intOf];omega
         ·by_cases C:0<=x
          ·by_cases D:x<(N.length:Int)
           ·have d:=f ay (by simp[C,D])
            clear f;go_wp2;go_round
            case rel=>exact⟨j+1,iE,by go_num,d.out⟩
            case measure=>simp[intOf];omega
           ·have d:=f ae (by simp[D])
            clear f;go_wp2;go_round
            case rel=>exact⟨j+1,iE,by go_num,d.out⟩
            case measure=>simp[intOf];omega
          ·have d:=f ae (by simp[C])
           clear f;go_wp2;go_round
           case rel=>exact⟨j+1,iE,by go_num,d.out⟩
           case measure=>simp[intOf];omega
       ·obtain rfl:j=n.keys.length:=iE
        have d:Hid (aS (A&&jH N.length (n.keys.take n.keys.length))=aS (A&&jH N.length n.keys)):=by show _=_;rw[aI]
        go_wp2;go_round
        case rel=>exact .inr (.inl ⟨rfl,d.out⟩)
        case measure=>decide
     ·have M:=I
      obtain⟨A,hA⟩:=iC ((acc&&jH N.length n.keys));have ad:=af hA;rw[hA];clear hA;go_wp2
      go_loop [3,40] (λg m=>∃j:Nat,j<=n.items.length/\m=.int .i64 j/\g=.bool (A&&jH N.length (n.items.take j))) (λ_ m=>n.items.length - (intOf m).toNat)
      case atStart=>exact⟨0,aP _,rfl,by simp[jH]⟩
      case round=>
       obtain⟨j,ai,rfl,rfl⟩:=hrel;by_cases k:j<n.items.length
       ·have ak:(j:Int)<(n.items.length:Int):=iE
        rcases M with z|⟨O,lo,P,p⟩
        ·exfalso;rw[z]at k;exact aC _ k
        ·subst P
         have hx:=p j n.items[j] (ah k);have al:O<wr.heap.size:=aW wr _ hx;have q:=GM (n:=N.length) k;have am:=af p;generalize n.items[j]=x at hx q;obtain⟨T,r⟩:=iC ((A&&jH N.length (n.items.take j)))
         have Q:Hid ((A&&jH N.length (n.items.take (j+1)))=(T&&(decide (0<=x)&&decide (x<(N.length:Int))))):=by show _=_;rw[q,<-bD,r]
         rw[r];clear q r p
         have f:∀R,(T&&(decide (0<=x)&&decide (x<(N.length:Int))))=R->Hid (aS R=.bool (A&&jH N.length (n.items.take (j+1)))):=λR hR=>by show _=_;rw[Q.out,hR]
         cases T
         ·have d:=f ae rfl
          clear f;go_wp2;go_round
          case rel=>exact⟨j+1,iE,by go_num,d.out⟩
          case measure=>simp[intOf];omega
         ·by_cases C:0<=x
          ·by_cases D:x<(N.length:Int)
           ·have d:=f ay (by simp[C,D])
            clear f;go_wp2;go_round
            case rel=>exact⟨j+1,iE,by go_num,d.out⟩
            case measure=>simp[intOf];omega
           ·have d:=f ae (by simp[D])
            clear f;go_wp2;go_round
            case rel=>exact⟨j+1,iE,by go_num,d.out⟩
            case measure=>simp[intOf];omega
          ·have d:=f ae (by simp[C])
           clear f;go_wp2;go_round
           case rel=>exact⟨j+1,iE,by go_num,d.out⟩
           case measure=>simp[intOf];omega
       ·obtain rfl:j=n.items.length:=iE
        have d:Hid (aS (A&&jH N.length (n.items.take n.items.length))=aS (A&&jH N.length n.items)):=by show _=_;rw[aI]
        go_wp2;go_round
        case rel=>exact .inr (.inr ⟨rfl,d.out⟩)
        case measure=>decide
     ·go_wp2
      go_roundw
      case rel=>exact⟨i+1,iE,by go_num,by rw[ac.out],Oy F.out F.out.size _ _,Oz Y.out _ _⟩
      case measure=>simp[intOf];omega
   ·obtain rfl:i=N.length:=iE
    have d:Hid (vI N root=((decide (0<=root)&&decide (root<(N.length:Int)))&&(N.take N.length).all λx=>jH N.length x.keys&&jH N.length x.items)):=by show _=_;rw[aI];rfl
    clear J y;go_wp2;go_ret;exact⟨lh d.out.symm,F.out⟩
def trimLen (L:List UInt8):Nat->Nat
 |0=>0
 |k+1=>if L.getD k 0=0 then trimLen L k else k+1
theorem trimLen_le (L:List UInt8):∀k,trimLen L k<=k
 |0=>aU _
 |k+1=>by unfold trimLen;have:=trimLen_le L k;split<;>omega
theorem GU (w:az)(g n c:Nat)(L:List UInt8)(hc:c<=maxLen)(hn:n<=c)(i:∀j,j<n->w.cell? ⟨g,j,aj⟩=ag (.int .u8 ((L.getD j 0).toNat:Int))):
  bu aN 172 #[.slice (ag ⟨g,0,aj⟩) n c] w λe w'=>e=.returned (.slice (ag ⟨g,0,aj⟩) (trimLen L n) c)/\w=w':=by
 unfold maxLen at hc;have l:=af i;clear i;go_enter Tryz.func172,Tryz.ntmps172;go_wp2
 go_loop [0] (λf=>∃k:Nat,k<=n/\f=.slice (ag ⟨g,0,aj⟩) k c/\trimLen L n=trimLen L k) (λf=>match f with|.slice _ k _=>k|_=>0)
 case atStart=>exact⟨n,aU _,rfl,rfl⟩
 case round=>
  obtain⟨k,q,rfl,d⟩:=hrel;cases k with
  |zero=>have a:=af d;clear d;go_wp2;go_ret;exact⟨by rw[a.out];rfl,rfl⟩
  |succ k=>
   have m:=l.out k iE;have e1:((k:Int)+1 - 1)=k:=iE;have o:(0:Int)<(k:Int)+1:=iE;have e3:(k:Int)<(k:Int)+1:=iE;have r:(0:Int)<=(k:Int):=iE;have e5:(k:Int)<=(c:Int):=iE
   have a:Hid (trimLen L n=if L.getD k 0=0 then trimLen L k else k+1):=by show _=_;rw[d];conv=>lhs;unfold trimLen
   clear d;generalize L.getD k 0=x at m a;by_cases b:x=0
   ·have h:Hid (trimLen L n=trimLen L k):=by show _=_;rw[a.out,gY b]
    have p:((x.toNat:Int)==0)=ay:=(by rw[b];rfl);clear a b;go_wp2;go_round
    case rel=>exact⟨k,iE,rfl,h.out⟩
    case measure=>exact Nat.lt_succ_self k
   ·have h:Hid (trimLen L n=k+1):=by show _=_;rw[a.out,gZ b]
    have p:((x.toNat:Int)==0)=ae:=by simp only[iy,ne_eq];exact λe=>b (UInt8.toNat_inj.1 (by have o:(0:UInt8).toNat=0:=rfl;omega))
    clear a b;go_wp2;go_ret;exact⟨by rw[h.out];rfl,rfl⟩
def rJ (x:Int):Bool:=decide ((97<=x/\x<=122)\/(65<=x/\x<=90)\/(48<=x/\x<=57)\/x=95\/x=45\/x=46\/x=58)
def qO (l:List UInt8):Bool:=l.all (λc=>rJ c.toNat)&&(decide (1<=l.length)&&decide (l.length<=64))
theorem UK (x:Int):∃b,Hid (rJ x=b)/\(
  (b=ay/\97<=x/\x<=122)\/(b=ay/\¬97<=x/\65<=x/\x<=90)\/(b=ay/\¬97<=x/\¬65<=x/\48<=x/\x<=57)
  \/(b=ae/\97<=x/\¬x<=122/\65<=x/\¬x<=90/\48<=x/\¬x<=57/\(x==95)=ae/\(x==45)=ae/\(x==46)=ae/\(x==58)=ae)
  \/(b=ay/\¬97<=x/\65<=x/\¬x<=90/\48<=x/\¬x<=57/\(x==95)=ay)
  \/(b=ae/\¬97<=x/\65<=x/\¬x<=90/\48<=x/\¬x<=57/\(x==95)=ae/\(x==45)=ae/\(x==46)=ae/\(x==58)=ae)
  \/(b=ay/\¬97<=x/\¬65<=x/\48<=x/\¬x<=57/\(x==95)=ae/\(x==45)=ae/\(x==46)=ae/\(x==58)=ay)
  \/(b=ae/\¬97<=x/\¬65<=x/\48<=x/\¬x<=57/\(x==95)=ae/\(x==45)=ae/\(x==46)=ae/\(x==58)=ae)
  \/(b=ay/\¬97<=x/\¬65<=x/\¬48<=x/\(x==95)=ae/\(x==45)=ay)
  \/(b=ay/\¬97<=x/\¬65<=x/\¬48<=x/\(x==95)=ae/\(x==45)=ae/\(x==46)=ay)
  \/(b=ae/\¬97<=x/\¬65<=x/\¬48<=x/\(x==95)=ae/\(x==45)=ae/\(x==46)=ae/\(x==58)=ae)):=by
 have T:((97<=x/\x<=122)\/(65<=x/\x<=90)\/(48<=x/\x<=57)\/x=95\/x=45\/x=46\/x=58)->Hid (rJ x=ay):=λh=>iq h
 have F:¬((97<=x/\x<=122)\/(65<=x/\x<=90)\/(48<=x/\x<=57)\/x=95\/x=45\/x=46\/x=58)->Hid (rJ x=ae):=λh=>iw h
 simp only[beq_iff_eq,iy,ne_eq];by_cases h:((97<=x/\x<=122)\/(65<=x/\x<=90)\/(48<=x/\x<=57)\/x=95\/x=45\/x=46\/x=58)
 ·exact⟨ay,T h,by simp only[true_and];omega⟩
 ·exact⟨ae,F h,by simp only[true_and];omega⟩
theorem UL {l:List UInt8}{k:Nat}(a:k<l.length)(h:(l.take k).all (λc=>rJ c.toNat)=ay)(b:rJ l[k].toNat=ay):(l.take (k+1)).all (λc=>rJ c.toNat)=ay:=by rw[au a,bH,h];simp[b]
theorem UM {l:List UInt8}{k:Nat}(a:k<l.length)(b:rJ l[k].toNat=ae):qO l=ae:=by
 have:l.all (λc=>rJ c.toNat)=ae:=by rw[List.all_eq_false];exact⟨l[k],aK a,by rw[b];decide⟩
 unfold qO;rw[this];rfl
theorem UN (s:ByteArray)(w:az)(hs:s.size<=maxLen):
  bu aN 119 #[.string s] w λe w'=>e=.returned (.bool (qO s.data.toList))/\w=w':=by
 unfold maxLen at hs;have j:Hid (s.data.toList.length=s.size):=by show s.data.toList.length=s.size;simp
 go_enter Tryz.func119,Tryz.ntmps119;go_wp2
 go_loop [7] (λi=>∃k:Nat,k<=s.size/\i=.int .i64 k/\(s.data.toList.take k).all (λc=>rJ c.toNat)=ay) (λi=>s.size - (intOf i).toNat)
 case atStart=>exact⟨0,aP _,rfl,rfl⟩
 case round=>
  obtain⟨k,x,rfl,hn⟩:=hrel;by_cases p:k<s.size
  ·have q:k<s.data.toList.length:=by rw[j.out];exact p
   have y:(k:Int)<(s.size:Int):=iE;have l:=UL q hn;have m:=UM q;have r:s.data.toList[k]=s[k]:=rfl;rw[r]at l m;obtain⟨b,t,u⟩:=UK (s[k].toNat:Int);have n:b=ay->Hid ((s.data.toList.take (k+1)).all (λc=>rJ c.toNat)=ay):=λe=>l (by rw[t.out,e])
   have o:b=ae->Hid (qO s.data.toList=ae):=λe=>m (by rw[t.out,e])
   clear l m r hn;rcases u with⟨rfl,h⟩|⟨rfl,h⟩|⟨rfl,h⟩|⟨rfl,h⟩|⟨rfl,h⟩|⟨rfl,h⟩|⟨rfl,h⟩|⟨rfl,h⟩|⟨rfl,h⟩|⟨rfl,h⟩|⟨rfl,h⟩
   case inr.inr.inr.inl|inr.inr.inr.inr.inr.inl|inr.inr.inr.inr.inr.inr.inr.inl|inr.inr.inr.inr.inr.inr.inr.inr.inr.inr=>have a:=o rfl;clear n o;obtain⟨d,f,z,A⟩:=h;go_wp2;go_ret;exact⟨lh a.out.symm,rfl⟩
   all_goals
    have a:=n rfl;clear n o;obtain⟨d,f⟩:=h;go_wp2;go_round
    case rel=>exact⟨k+1,p,by go_num,a.out⟩
    case measure=>simp[intOf];omega
  ·obtain rfl:k=s.size:=iE
   have a:Hid (qO s.data.toList=(decide (1<=s.size)&&decide (s.size<=64))):=by show _=_;rw[<-j.out,aI]at hn;unfold qO;rw[hn,j.out];rfl
   clear hn;by_cases d:1<=s.size
   ·by_cases f:s.size<=64
    ·have g:Hid (qO s.data.toList=ay):=by show _=_;rw[a.out];simp[d,f]
     have e1:(1:Int)<=s.size:=iE;have v:(s.size:Int)<=64:=iE;clear d f;go_wp2;go_ret;exact⟨lh g.out.symm,rfl⟩
    ·have g:Hid (qO s.data.toList=ae):=by show _=_;rw[a.out];simp[f]
     have e1:(1:Int)<=s.size:=iE;have v:¬(s.size:Int)<=64:=iE;clear d f;go_wp2;go_ret;exact⟨lh g.out.symm,rfl⟩
   ·have g:Hid (qO s.data.toList=ae):=by show _=_;rw[a.out];simp[d]
    have e1:¬(1:Int)<=s.size:=iE;clear d;go_wp2;go_ret;exact⟨lh g.out.symm,rfl⟩
def nd0:Nd:=⟨0,⟨#[]⟩,ae,[],[]⟩
def jR (N:List Nd):Nat->Nat->List Bool->List Bool
 |0,_,M=>M
 |f+1,a,M=>if M.getD a ae then M else
  (N.getD a nd0).items.foldl (λM x=>jR N f x.toNat M) ((N.getD a nd0).keys.foldl (λM x=>jR N f x.toNat M) (M.set a ay))
theorem zy {l:List Int}{F:Nat->List Bool->List Bool}(h:∀a M,(F a M).length=M.length/\(F a M).count ae<=M.count ae):∀M,(l.foldl (λM x=>F x.toNat M) M).length=M.length/\(l.foldl (λM x=>F x.toNat M) M).count ae<=M.count ae:=by
 induction l with
 |nil=>intro M;exact⟨rfl,aU _⟩
 |cons x l d=>intro M;simp only[bI];have b:=d (F x.toNat M);have c:=h x.toNat M;exact⟨b.1.trans c.1,bG b.2 c.2⟩
theorem GV {M:List Bool}{a:Nat}(h:a<M.length)(hf:M.getD a ae=ae):(M.set a ay).count ae+1=M.count ae:=by
 have e:M[a]=ae:=by rw[aB,ah h]at hf;exact hf
 have hc:=List.count_set (l:=M) (a:=ay) (b:=ae) h;have hp:0<M.count ae:=List.count_pos_iff.2 (by rw[<-e];exact aK h);rw[e]at hc;simp at hc;omega
theorem vK (N:List Nd):∀f a M,(jR N f a M).length=M.length/\(jR N f a M).count ae<=M.count ae
 |0,a,M=>⟨rfl,aU _⟩
 |f+1,a,M=>by
  unfold jR;split
  ·exact⟨rfl,aU _⟩
  ·rename_i h
   have b:=vK N f;have c:=zy (l:=(N.getD a nd0).keys) b (M.set a ay);have d:=zy (l:=(N.getD a nd0).items) b ((N.getD a nd0).keys.foldl (λM x=>jR N f x.toNat M) (M.set a ay));refine⟨d.1.trans (c.1.trans iH),bG d.2 (bG c.2 ?_)⟩;by_cases e:a<M.length
   ·have:=GV e (by simpa using h);omega
   ·rw[List.set_eq_of_length_le iE];exact aU _
structure VW (w0:az)(v:aQ)(N:List Nd)(mb bm bg bv:Nat)(M:List Bool)(w:az):Prop where
 nodes:jJ w0 v N
 below:aZ w0.heap.size w0 w
 lo:w0.heap.size<=mb
 len:M.length=N.length
 marks:w.heap[mb]?=ag (.cells (M.map aS).toArray 4)
 box:w.cell? ⟨bm,0,aj⟩=ag (.slice (ag ⟨mb,0,aj⟩) N.length N.length)
 AZ:w.cell? ⟨bg,0,aj⟩=ag v
 A7:w.cell? ⟨bv,0,aj⟩=ag (.func (.func 118) #[] #[.pointer (ag ⟨bm,0,aj⟩),.pointer (ag ⟨bg,0,aj⟩),.pointer (ag ⟨bv,0,aj⟩)])
 ne:bm≠mb/\bg≠mb/\bv≠mb
theorem VW.mark {w0:az}{v:aQ}{N:List Nd}{mb c d e:Nat}{M:List Bool}{w:az}(h:VW w0 v N mb c d e M w)(a:Nat):VW w0 v N mb c d e (M.set a ay) (w.setCell ⟨mb,a,aj⟩ (.bool ay)):=by
 have hs:∀b o,b≠mb->(w.setCell ⟨mb,a,aj⟩ (.bool ay)).cell? ⟨b,o,aj⟩=w.cell? ⟨b,o,aj⟩:=λb o f=>by unfold World.cell?;simp[aX,aV,Ne.symm f]
 refine⟨h.nodes,h.below.setCell (p:=⟨mb,a,aj⟩) h.lo _,h.lo,by simp[h.len],?_,?_,?_,?_,h.ne⟩
 ·simp[aX,aV,h.marks,bY]
 ·rw[hs _ _ h.ne.1];exact h.box
 ·rw[hs _ _ h.ne.2.1];exact h.AZ
 ·rw[hs _ _ h.ne.2.2];exact h.A7
def nN (N:List Nd):Prop:=∀n∈N,(∀x∈n.keys,0<=x/\x<(N.length:Int))/\(∀x∈n.items,0<=x/\x<(N.length:Int))
theorem yf (w:az)(r:Option Nat):w.grownBy w r:=⟨rfl,rfl,rfl,aU _,λ_ _ _=>rfl⟩
theorem lN (w:az)(mb a:Nat)(v:aQ):w.grownBy (w.setCell ⟨mb,a,aj⟩ v) (ag mb):=⟨rfl,rfl,rfl,by simp[aX],λk _ b=>Below.heap_setCell _ _ _ _ (λe=>b (by simp[e]))⟩
theorem visit_any (w0:az)(v:aQ)(N:List Nd)(mb s t u:Nat)(hR:nN N):∀(f a:Nat) (M:List Bool) (w:az),M.count ae<f->a<N.length->VW w0 v N mb s t u M w->
  bu aN 118 #[.int .i64 a,.pointer (ag ⟨s,0,aj⟩),.pointer (ag ⟨t,0,aj⟩),.pointer (ag ⟨u,0,aj⟩)] w λe w'=>e=.returned (.tuple #[])/\VW w0 v N mb s t u (jR N f a M) w'/\w.grownBy w' (ag mb)/\w'.heap.size=w.heap.size:=by
 intro f
 induction f with
 |zero=>intro a M w h;exact absurd h (aC _)
 |succ f Z=>
  intro a M w hc ha g;have y:=af g;have aa:=af Z;have ap:=af hR;have a6:=g.box;obtain⟨a7,a8,a9⟩:=g.ne;obtain⟨va,vc,aq,ba,ab⟩:=g.nodes;have ar:=af ab;clear ab;subst aq;have bb:=g.AZ;have bc:=g.A7;have I:a<M.length:=by rw[g.len];exact ha
  have ac:w.cell? ⟨mb,a,aj⟩=ag (.bool M[a]):=by rw[aH g.marks];simp[I]
  have fm:w.frozen? ⟨mb,a,aj⟩=ae:=bn g.marks a;have bd:(a:Int)<(N.length:Int):=iE
  clear g Z hR;rcases ar.out with z|⟨b,o,rfl,ad⟩
  ·exfalso;rw[z]at ha;exact aC _ ha
  have L:N[a]?=ag N[a]:=ah ha;have ai:=ad a N[a] L;have O:N.getD a nd0=N[a]:=by rw[aB,L];rfl
  have P:=ap.out N[a] (aK ha);generalize N[a]=n at ai O P;have av:=af O;have ak:=af P;obtain⟨be,bf,al,aw,aD,am,Q,J,K⟩:=ai;obtain⟨bg,bh,rfl,bi,J⟩:=J;obtain⟨bj,bk,rfl,bl,K⟩:=K;have aE:=af J;have aF:=af K;have an:=af Q;have aG:b<w0.heap.size:=aW w0 _ al;have bm:b≠mb:=by have:=y.out.lo;omega
  have e3:=iU y.out.below am;have bo:=iU y.out.below Q;clear ad L O P aG al aw aD am Q J K;by_cases hm:M[a]=ay
  ·have R:Hid (jR N (f+1) a M=M):=by
    show _=_;unfold jR;rw[gY (by rw[aB,ah I];simpa using hm)]
   rw[hm]at ac;clear hm;go_enter bZ,bQ;go_wp2;refine bodyPost_ret (results_none rfl _ _ _) rfl ?_;exact⟨rfl,by rw[R.out];exact y.out,yf _ _,rfl⟩
  ·have S:M[a]=ae:=by simpa using hm
   have T:M.getD a ae=ae:=by rw[aB,ah I];exact S
   have R:Hid (jR N (f+1) a M=n.items.foldl (λM x=>jR N f x.toNat M) (n.keys.foldl (λM x=>jR N f x.toNat M) (M.set a ay))):=by
    show _=_
    conv=>lhs;unfold jR
    rw[gZ (by rw[T];decide),av.out]
   have aL:=GV I T;have ao:Hid ((M.set a ay).count ae<f):=(by show(M.set a ay).count ae<f;omega);rw[S]at ac;have aM:=af (y.out.mark a);clear hm S T aL hc;go_enter bZ,bQ;go_wp2
   go_loopw [23] (λl wr=>∃(j:Nat) (M':List Bool),l=.int .i64 j/\j<=n.keys.length/\M'=(n.keys.take j).foldl (λM x=>jR N f x.toNat M) (M.set a ay)/\VW w0 (.slice (ag ⟨b,o,aj⟩) N.length vc) N mb s t u M' wr/\w.grownBy wr (ag mb)/\wr.heap.size=w.heap.size) (λl _=>n.keys.length - (intOf l).toNat)
   case atStart=>exact⟨0,_,rfl,aP _,rfl,aM.out,lN _ _ _ _,by simp[aX]⟩
   case round=>
    obtain⟨j,M',rfl,aR,m,c,A,B⟩:=hrel;have U:M'.count ae<=(M.set a ay).count ae:=(by rw[m];exact(zy (vK N f) _).2);have C:M'.count ae<f:=(by have:=ao.out;omega);have p:=af c;have D:=af m;have i:=af (And.intro A B);have V:=af C;have a0:=c.A7;have a1:=c.AZ;have a2:=iU c.below an.out;clear m c A B U C;by_cases d:j<n.keys.length
    ·have a3:(j:Int)<(n.keys.length:Int):=iE
     have hx:=ak.out.1 n.keys[j] (aK d);rcases aE.out with z|⟨a4,lo,rfl,q⟩
     ·exfalso;rw[z]at d;exact aC _ d
     have W:=iU p.out.below (q j n.keys[j] (ah d))
     have E:Hid ((n.keys.take (j+1)).foldl (λM x=>jR N f x.toNat M) (M.set a ay)=jR N f n.keys[j].toNat M'):=by show _=_;rw[au d,aT,<-D.out];rfl
     generalize n.keys[j]=x at hx W E;obtain⟨k,rfl⟩:=aJ hx.1;have X:k<N.length:=(by have:=hx.2;omega);have a5:=af q;clear q hx
     go_wp2_with(go_at_call 118;refine(aa.out k M' wr V.out X p.out).mono ?_;rintro e w3 ⟨rfl,F,G,H⟩;have r:=af (And.intro F (And.intro G H));clear F G H)
     go_roundw
     case rel=>refine⟨j+1,_,by go_num,iE,E.out.symm,?_,i.out.1.trans r.out.2.1,r.out.2.2.trans i.out.2⟩;exact r.out.1
     case measure=>simp[intOf];omega
    ·obtain rfl:j=n.keys.length:=iE
     have Y:Hid (M'=n.keys.foldl (λM x=>jR N f x.toNat M) (M.set a ay)):=by show _=_;rw[D.out,aI]
     go_wp2
     go_loopw [38] (λl wr=>∃(j:Nat) (M':List Bool),l=.int .i64 j/\j<=n.items.length/\M'=(n.items.take j).foldl (λM x=>jR N f x.toNat M) (n.keys.foldl (λM x=>jR N f x.toNat M) (M.set a ay))/\VW w0 (.slice (ag ⟨b,o,aj⟩) N.length vc) N mb s t u M' wr/\w.grownBy wr (ag mb)/\wr.heap.size=w.heap.size) (λl _=>n.items.length - (intOf l).toNat)
     case atStart=>exact⟨0,M',rfl,aP _,Y.out,p.out,i.out.1,i.out.2⟩
     case round=>
      obtain⟨j,M',rfl,aR,m,c,A,B⟩:=hrel;have U:M'.count ae<=(M.set a ay).count ae:=(by rw[m];exact bG (zy (vK N f) _).2 (zy (vK N f) _).2);have C:M'.count ae<f:=(by have:=ao.out;omega);have p:=af c;have D:=af m;have i:=af (And.intro A B);have V:=af C;have a0:=c.A7;have a1:=c.AZ;have a2:=iU c.below an.out;clear m c A B U C;by_cases d:j<n.items.length
      ·have a3:(j:Int)<(n.items.length:Int):=iE
       have hx:=ak.out.2 n.items[j] (aK d);rcases aF.out with z|⟨a4,lo,rfl,q⟩
       ·exfalso;rw[z]at d;exact aC _ d
       have W:=iU p.out.below (q j n.items[j] (ah d))
       have E:Hid ((n.items.take (j+1)).foldl (λM x=>jR N f x.toNat M) (n.keys.foldl (λM x=>jR N f x.toNat M) (M.set a ay))=jR N f n.items[j].toNat M'):=by show _=_;rw[au d,aT,<-D.out];rfl
       generalize n.items[j]=x at hx W E;obtain⟨k,rfl⟩:=aJ hx.1;have X:k<N.length:=(by have:=hx.2;omega);have a5:=af q;clear q hx
       go_wp2_with(go_at_call 118;refine(aa.out k M' wr V.out X p.out).mono ?_;rintro e w3 ⟨rfl,F,G,H⟩;have r:=af (And.intro F (And.intro G H));clear F G H)
       go_roundw
       case rel=>refine⟨j+1,_,by go_num,iE,E.out.symm,?_,i.out.1.trans r.out.2.1,r.out.2.2.trans i.out.2⟩;exact r.out.1
       case measure=>simp[intOf];omega
      ·obtain rfl:j=n.items.length:=iE
       have Y:Hid (M'=n.items.foldl (λM x=>jR N f x.toNat M) (n.keys.foldl (λM x=>jR N f x.toNat M) (M.set a ay))):=by show _=_;rw[D.out,aI]
       go_wp2;go_end0;exact⟨rfl,by rw[R.out,<-Y.out];exact p.out,i.out.1,i.out.2⟩
theorem count_le (M:List Bool):M.count ae<=M.length:=List.count_le_length
theorem GY (w0 w:az)(v:aQ)(N:List Nd)(root:Int)(a mb:Nat)(M:List Bool)(c:jJ w0 v N)(hR:nN N)(b:aZ w0.heap.size w0 w)(d:w0.heap.size<=mb)(f:M.length=N.length)(hm:w.heap[mb]?=ag (.cells (M.map aS).toArray 4))(ha:a<N.length):
  bu aN 102 #[.agg #[v,.int .i64 root],.int .i64 a,.slice (ag ⟨mb,0,aj⟩) N.length N.length] w λe w'=>e=.returned (.tuple #[])/\w.grownBy w' (ag mb)/\w'.heap[mb]?=ag (.cells ((jR N (N.length+1) a M).map aS).toArray 4):=by
 have g:mb<w.heap.size:=(ax.1 hm).1;have h:M.count ae<N.length+1:=by have:=count_le M;omega
 have i:=visit_any w0 v N mb (w.heap.size+1) w.heap.size (w.heap.size+1+1) hR (N.length+1) a M;have H:=af (And.intro c (And.intro b (And.intro d (And.intro f (And.intro hm (And.intro ha (And.intro g (And.intro h i))))))));obtain⟨va,vc,rfl,m,_⟩:=c;clear b d f hm ha g h i hR;go_enter Tryz.func102,Tryz.ntmps102
 go_wp2_with(go_at_call 118;refine(H.out.2.2.2.2.2.2.2.2 _ H.out.2.2.2.2.2.2.2.1 H.out.2.2.2.2.2.1 ?_).mono ?_)
 ·obtain⟨c,b,d,f,hm,ha,g,h,_⟩:=H.out
  have j:=((b.alloc b.size (.cells #[.slice va N.length vc,.int .i64 root] 117)).alloc (by simp;have:=b.size;omega) (.cells #[.slice (ag ⟨mb,0,aj⟩) N.length N.length] 168)).alloc (by simp;have:=b.size;omega) (.cells #[.func (.func 118) #[] #[.pointer (ag ⟨w.heap.size+1,0,aj⟩),.pointer (ag ⟨w.heap.size,0,aj⟩),.pointer (ag ⟨w.heap.size+1+1,0,aj⟩)]] 184);refine⟨c,j,d,f,?_,?_,?_,?_,iE,iE,iE⟩
  ·rw[aO _ _ _ iI,aO _ _ _ iI,aO _ _ _ g];exact hm
  ·go_simp
  ·go_simp
  ·go_simp
 ·rintro e w' ⟨rfl,k,l,n⟩
  go_wp2;go_end0;obtain⟨c,b,d,f,hm,ha,g,h,_⟩:=H.out;refine⟨rfl,?_,k.marks⟩;exact(((bC _ _ _).trans (bC _ _ _)).trans (bC _ _ _)).trans l
def incr (C:List Int)(x:Int):List Int:=C.set x.toNat (wrap64 (C.getD x.toNat 0+1))
def rq (C:List Int)(n:Nd):List Int:=n.items.foldl incr (n.keys.foldl incr C)
def cntF (N:List Nd)(root:Int):List Int:=N.foldl rq (incr (aA N.length 0) root)
theorem D7 (C:List Int)(x:Int):(incr C x).length=C.length:=by simp[incr]
theorem A8 (l:List Int):∀C:List Int,(l.foldl incr C).length=C.length:=by
 induction l with
 |nil=>intro C;rfl
 |cons x l a=>intro C;simp only[bI];rw[a,D7]
structure CW (w:az)(N:List Nd)(bx:Array aQ)(C:List Int)(wr:az):Prop where
 below:aZ w.heap.size w wr
 box:wr.heap[w.heap.size]?=ag (.cells bx 117)
 row:wr.heap[w.heap.size+1]?=ag (.cells (C.map (cZ .i64)).toArray 3)
 len:C.length=N.length
theorem CW.alloc {w:az}{N:List Nd}{a:Array aQ}{C:List Int}{wr:az}(h:CW w N a C wr)(o:Obj):CW w N a C (wr.alloc o):=
 ⟨h.below.alloc h.below.size o,by rw[aO _ _ _ (ax.1 h.box).1];exact h.box,by rw[aO _ _ _ (ax.1 h.row).1];exact h.row,h.len⟩
theorem CW.set {w:az}{N:List Nd}{a:Array aQ}{C:List Int}{wr:az}(h:CW w N a C wr)(k:Nat)(x:Int):CW w N a (C.set k x) (wr.setCell ⟨w.heap.size+1,k,aj⟩ (.int .i64 x)):=by
 refine⟨h.below.setCell (p:=⟨w.heap.size+1,k,aj⟩) (by show w.heap.size<=w.heap.size+1;omega) _,?_,?_,by simp[h.len]⟩
 ·simp[aX,aV,h.box]
 ·simp[aX,aV,h.row,bY]
theorem jm {w:az}{b k c:Nat}(v:aQ)(h:c≠b):(w.setCell ⟨b,k,aj⟩ v).heap[c]?=w.heap[c]?:=by simp[aX,aV,Ne.symm h]
theorem OM (w:az)(N:List Nd)(a:Array aQ):CW w N a (aA N.length 0) ((w.alloc (.cells a 117)).alloc (.cells (bz N.length (.int .i64 0)) 3)):=by
 have b:(w.alloc (.cells a 117)).heap.size=w.heap.size+1:=iH
 refine⟨((Below.refl _ w).alloc (aU _) _).alloc iH _,?_,?_,iH⟩
 ·rw[aO _ _ _ iH];exact aY w _
 ·rw[<-b,aY];simp
theorem su:(Tryz.prog.info? 3).map (λi=>(i.zero,i.size,i.bytes))=ag (ag (.int .i64 0),1,8):=iF
theorem D8:(Tryz.prog.info? 4).map (λi=>(i.zero,i.size,i.bytes))=ag (ag (.bool ae),1,1):=iF
theorem sD (z:aQ)(n:Nat):madeCells #[z] n=bz n z:=by
 apply Array.ext
 ·simp[madeCells]
 ·intro i a b
  simp[madeCells,Nat.mod_one]
theorem vM {T E bytes:Nat}{z:aQ}(b:Tryz.prog.underlying T=ag (.slice E))(d:(Tryz.prog.info? E).map (λi=>(i.zero,i.size,i.bytes))=ag (ag z,1,bytes))(e:z.cells=#[z])(w:az){ops:Array Oper}{rest:List Oper}{o:Oper}{a:Act}{Q:Exit->Act->az->Prop}
  (f:o.guard=aj)(l c:Operand)(g:o.op=Op.makeSlice T l c)(n H:Nat)(h:a.eval l=.int .i64 (n:Int))(hc:a.eval c=.int .i64 (n:Int))(j:bytes*n<=281474976710656)(k:n<=9223372036854775807)(m:w.heap.size=H)
  (hK:∀W,Hid (W=w.alloc (.cells (bz n z) E))->wpList aN ops Q rest (a.put o.dst (.slice (ag ⟨H,0,aj⟩) n n)) W):wpList aN ops Q (o::rest) a w:=by
 obtain⟨i,hi,p,hs,q⟩:=info_parts d;subst m;refine wpList_make_row w f l c T g E i z b hi p hs e .i64 .i64 n h hc (by rw[q];exact j) k ?_;rw[sD];exact hK _ rfl
theorem OO (w:az)(v:aQ)(N:List Nd)(root:Nat)(T:jJ w v N)(hR:nN N)(U:root<N.length)(hn:N.length<=4096):
  bu aN 104 #[.agg #[v,.int .i64 root]] w λe w'=>e=.returned (.slice (ag ⟨w.heap.size+1,0,aj⟩) N.length N.length)/\aZ w.heap.size w w'/\w'.heap[w.heap.size+1]?=ag (.cells ((cntF N root).map (cZ .i64)).toArray 3):=by
 have a0:=af T;have al:=af hR;obtain⟨va,vc,rfl,a1,V⟩:=T;have am:=af V;have a2:(root:Int)<(N.length:Int):=iE
 have a3:(0:Int)<=root:=iE
 clear hR V;go_enter Tryz.func104,Tryz.ntmps104
 go_wp2_with(refine vM Tryz.underlying36 su rfl _ rfl _ _ rfl N.length (w.heap.size+1) rfl rfl iE iE (jl _ _) ?_)
 intro W an
 have r:Hid (CW w N #[.slice va N.length vc,.int .i64 root] (aA N.length 0) W):=by show CW w N #[.slice va N.length vc,.int .i64 root] (aA N.length 0) W;rw[an.out];exact OM w N _
 have M:W.cell? ⟨w.heap.size,1,aj⟩=ag (.int .i64 root):=(aH r.out.box 1).trans rfl;have O:W.cell? ⟨w.heap.size,0,aj⟩=ag (.slice va N.length vc):=(aH r.out.box 0).trans rfl;have a4:W.cell? ⟨w.heap.size+1,root,aj⟩=ag (.int .i64 0):=by rw[aH r.out.row];simp[U]
 have a5:W.frozen? ⟨w.heap.size+1,root,aj⟩=ae:=bn r.out.row root
 have ao:Hid (CW w N #[.slice va N.length vc,.int .i64 root] (incr (aA N.length 0) root) (W.setCell ⟨w.heap.size+1,root,aj⟩ (.int .i64 1))):=by
  have h:=r.out.set root 1
  have e:incr (aA N.length 0) root=(aA N.length 0).set root 1:=by unfold incr;simp only[bF];rw[aB,List.getElem?_replicate,gY U];have ap:wrap64 ((ag (0:Int)).getD 0+1)=1:=(by simp[wrap64]);rw[ap]
  show CW w N #[.slice va N.length vc,.int .i64 root] (incr (aA N.length 0) root) _;rw[e];exact h
 have a6:w.heap.size<W.heap.size:=(ax.1 r.out.box).1;go_wp2
 go_loopw [24] (λG wr=>∃(i:Nat) (C:List Int),G=.int .i64 i/\i<=N.length/\C=(N.take i).foldl rq (incr (aA N.length 0) root)/\CW w N #[.slice va N.length vc,.int .i64 root] C wr) (λG _=>N.length - (intOf G).toNat)
 case atStart=>exact⟨0,_,rfl,aP _,rfl,ao.out⟩
 case round=>
  obtain⟨i,C,rfl,hi,P,a⟩:=hrel;have d:=af a;have X:=af P;by_cases u:i<N.length
  ·have a7:(i:Int)<(N.length:Int):=iE
   rcases am.out with z|⟨b,o,rfl,Y⟩
   ·exfalso;rw[z]at u;exact aC _ u
   have Z:=Y i N[i] (ah u);have Q:=al.out N[i] (aK u)
   have aa:Hid ((N.take (i+1)).foldl rq (incr (aA N.length 0) root)=rq C N[i]):=by show _=_;rw[au u,aT,<-X.out];rfl
   generalize N[i]=n at Z Q aa;have ab:=af Q;obtain⟨a8,G,O,M,ac,ad,ai,H,I⟩:=Z;obtain⟨J,K,rfl,a9,H⟩:=H;obtain⟨s,t,rfl,ba,I⟩:=I;have aq:=af H;have ar:=af I;have d0:=iU a.below O;have bb:=iU a.below M;have bc:=iU a.below ac;have bd:=iU a.below ad;have be:=iU a.below ai;obtain⟨f,av⟩:=iC wr.heap.size
   have ak:Hid (f≠w.heap.size+1):=by have:=(ax.1 a.row).1;show f≠w.heap.size+1;omega
   have aw:Hid ((wr.alloc (.cells #[.int .i64 n.kind,.string n.text,.bool n.ord,.slice J n.keys.length K,.slice s n.items.length t] 150)).heap[f]?=ag (.cells #[.int .i64 n.kind,.string n.text,.bool n.ord,.slice J n.keys.length K,.slice s n.items.length t] 150)):=by show _=_;rw[<-av];exact aY wr _
   clear Y P a Q H I O M ac ad ai;go_wp2
   go_loopw [31] (λl wr=>∃(j:Nat) (D:List Int),l=.int .i64 j/\j<=n.keys.length/\D=(n.keys.take j).foldl incr C/\CW w N #[.slice (ag ⟨b,o,aj⟩) N.length vc,.int .i64 root] D wr/\wr.heap[f]?=ag (.cells #[.int .i64 n.kind,.string n.text,.bool n.ord,.slice J n.keys.length K,.slice s n.items.length t] 150)) (λl _=>n.keys.length - (intOf l).toNat)
   case atStart=>exact⟨0,_,rfl,aP _,rfl,d.out.alloc _,aw.out⟩
   case round=>
    obtain⟨j,D,rfl,aD,m,a,g⟩:=hrel;have d:=af a;have A:=af m;have L:=af g;by_cases c:j<n.keys.length
    ·have aE:(j:Int)<(n.keys.length:Int):=iE
     have hx:=ab.out.1 n.keys[j] (aK c);rcases aq.out with z|⟨aF,lo,rfl,p⟩
     ·exfalso;rw[z]at c;exact aC _ c
     have R:=iU a.below (p j n.keys[j] (ah c))
     have B:Hid ((n.keys.take (j+1)).foldl incr C=incr D n.keys[j]):=by show _=_;rw[au c,aT,<-A.out];rfl
     generalize n.keys[j]=x at hx R B;obtain⟨k,rfl⟩:=aJ hx.1;have q:k<D.length:=(by rw[a.len];have:=hx.2;omega);have aG:(k:Int)<(N.length:Int):=hx.2;have S:wr.cell? ⟨w.heap.size+1,k,aj⟩=ag (.int .i64 D[k]):=(by rw[aH a.row];simp[q]);have aL:wr.frozen? ⟨w.heap.size+1,k,aj⟩=ae:=bn a.row k
     have E:Hid (incr D (k:Int)=D.set k (wrap64 (D[k]+1))):=by show _=_;unfold incr;simp only[bF];rw[aB,ah q];rfl
     have aM:=af p;generalize D[k]=y at S E;clear p hx m a g q;go_wp2;go_roundw
     case rel=>
      refine⟨j+1,_,by go_num,iE,B.out.symm,?_,?_⟩
      ·rw[E.out];exact d.out.set k _
      ·rw[jm _ ak.out];exact L.out
     case measure=>simp[intOf];omega
    ·obtain rfl:j=n.keys.length:=iE
     have F:Hid (D=n.keys.foldl incr C):=by show _=_;rw[A.out,aI]
     have aR:wr.cell? ⟨f,4,aj⟩=ag (.slice s n.items.length t):=(aH g 4).trans rfl;clear m a g;go_wp2
     go_loopw [45] (λl wr=>∃(j:Nat) (D:List Int),l=.int .i64 j/\j<=n.items.length/\D=(n.items.take j).foldl incr (n.keys.foldl incr C)/\CW w N #[.slice (ag ⟨b,o,aj⟩) N.length vc,.int .i64 root] D wr/\wr.heap[f]?=ag (.cells #[.int .i64 n.kind,.string n.text,.bool n.ord,.slice J n.keys.length K,.slice s n.items.length t] 150)) (λl _=>n.items.length - (intOf l).toNat)
     case atStart=>exact⟨0,D,rfl,aP _,F.out,d.out,L.out⟩
     case round=>
      obtain⟨j,D,rfl,aD,m,a,g⟩:=hrel;have d:=af a;have A:=af m;have L:=af g;by_cases c:j<n.items.length
      ·have aE:(j:Int)<(n.items.length:Int):=iE
       have hx:=ab.out.2 n.items[j] (aK c);rcases ar.out with z|⟨aF,lo,rfl,p⟩
       ·exfalso;rw[z]at c;exact aC _ c
       have R:=iU a.below (p j n.items[j] (ah c))
       have B:Hid ((n.items.take (j+1)).foldl incr (n.keys.foldl incr C)=incr D n.items[j]):=by show _=_;rw[au c,aT,<-A.out];rfl
       generalize n.items[j]=x at hx R B;obtain⟨k,rfl⟩:=aJ hx.1;have q:k<D.length:=(by rw[a.len];have:=hx.2;omega);have aG:(k:Int)<(N.length:Int):=hx.2;have S:wr.cell? ⟨w.heap.size+1,k,aj⟩=ag (.int .i64 D[k]):=(by rw[aH a.row];simp[q]);have aL:wr.frozen? ⟨w.heap.size+1,k,aj⟩=ae:=bn a.row k
       have E:Hid (incr D (k:Int)=D.set k (wrap64 (D[k]+1))):=by show _=_;unfold incr;simp only[bF];rw[aB,ah q];rfl
       have aM:=af p;generalize D[k]=y at S E;clear p hx m a g q;go_wp2;go_roundw
       case rel=>
        refine⟨j+1,_,by go_num,iE,B.out.symm,?_,?_⟩
        ·rw[E.out];exact d.out.set k _
        ·rw[jm _ ak.out];exact L.out
       case measure=>simp[intOf];omega
      ·obtain rfl:j=n.items.length:=iE
       have F:Hid (D=n.items.foldl incr (n.keys.foldl incr C)):=by show _=_;rw[A.out,aI]
       have aR:wr.cell? ⟨f,4,aj⟩=ag (.slice s n.items.length t):=(aH g 4).trans rfl;clear m a g;go_wp2;go_roundw
       case rel=>exact⟨i+1,_,by go_num,iE,rfl,by rw[aa.out];unfold rq;rw[<-F.out];exact d.out⟩
       case measure=>simp[intOf];omega
  ·obtain rfl:i=N.length:=iE
   have F:Hid (C=cntF N root):=by show _=_;rw[X.out,aI];rfl
   clear P a;go_wp2;go_ret;exact⟨rfl,d.out.below,by rw[<-F.out];exact d.out.row⟩
def rM (N:List Nd)(M:List Bool)(n:Nd):List Bool:=n.keys.foldl (λM x=>jR N (N.length+1) x.toNat M) M
def tu (N:List Nd):List Bool:=N.foldl (rM N) (aA N.length ae)
structure IW (w:az)(N:List Nd)(bx:Array aQ)(M:List Bool)(wr:az):Prop where
 below:aZ w.heap.size w wr
 box:wr.heap[w.heap.size]?=ag (.cells bx 117)
 row:wr.heap[w.heap.size+1]?=ag (.cells (M.map aS).toArray 4)
 len:M.length=N.length
theorem IW.alloc {w:az}{N:List Nd}{a:Array aQ}{M:List Bool}{wr:az}(h:IW w N a M wr)(o:Obj):IW w N a M (wr.alloc o):=
 ⟨h.below.alloc h.below.size o,by rw[aO _ _ _ (ax.1 h.box).1];exact h.box,by rw[aO _ _ _ (ax.1 h.row).1];exact h.row,h.len⟩
theorem UZ (w:az)(N:List Nd)(a:Array aQ):IW w N a (aA N.length ae) ((w.alloc (.cells a 117)).alloc (.cells (bz N.length (.bool ae)) 4)):=by
 have b:(w.alloc (.cells a 117)).heap.size=w.heap.size+1:=iH
 refine⟨((Below.refl _ w).alloc (aU _) _).alloc iH _,?_,?_,iH⟩
 ·rw[aO _ _ _ iH];exact aY w _
 ·rw[<-b,aY];simp
theorem IW.step {w:az}{N:List Nd}{a:Array aQ}{M M':List Bool}{wr w':az}(h:IW w N a M wr)(b:wr.grownBy w' (ag (w.heap.size+1)))(hm:w'.heap[w.heap.size+1]?=ag (.cells (M'.map aS).toArray 4))(c:M'.length=M.length):IW w N a M' w':=
 ⟨h.below.grown b h.below.size (λk d=>by have e:=Option.some.inj d;omega),by rw[b.block _ (ax.1 h.box).1 iH];exact h.box,hm,c.trans h.len⟩
theorem U0 (w:az)(v:aQ)(N:List Nd)(root:Int)(z:jJ w v N)(hR:nN N)(hn:N.length<=4096):
  bu aN 105 #[.agg #[v,.int .i64 root]] w λe w'=>e=.returned (.slice (ag ⟨w.heap.size+1,0,aj⟩) N.length N.length)/\aZ w.heap.size w w'/\w'.heap[w.heap.size+1]?=ag (.cells ((tu N).map aS).toArray 4):=by
 have U:=af z;have A:=af hR;obtain⟨va,vc,rfl,ad,B⟩:=z;have V:=af B;clear hR B;go_enter Tryz.func105,Tryz.ntmps105
 go_wp2_with(refine vM Tryz.underlying168 D8 rfl _ rfl _ _ rfl N.length (w.heap.size+1) rfl rfl iE iE (jl _ _) ?_)
 intro W X
 have E:Hid (IW w N #[.slice va N.length vc,.int .i64 root] (aA N.length ae) W):=by show IW w N #[.slice va N.length vc,.int .i64 root] (aA N.length ae) W;rw[X.out];exact UZ w N _
 have l:W.cell? ⟨w.heap.size,0,aj⟩=ag (.slice va N.length vc):=(aH E.out.box 0).trans rfl;go_wp2
 go_loopw [15] (λg wr=>∃(i:Nat) (M:List Bool),g=.int .i64 i/\i<=N.length/\M=(N.take i).foldl (rM N) (aA N.length ae)/\IW w N #[.slice va N.length vc,.int .i64 root] M wr) (λg _=>N.length - (intOf g).toNat)
 case atStart=>exact⟨0,_,rfl,aP _,rfl,E.out⟩
 case round=>
  obtain⟨i,C,rfl,hi,m,a⟩:=hrel;have c:=af a;have F:=af m;by_cases d:i<N.length
  ·have ai:(i:Int)<(N.length:Int):=iE
   rcases V.out with p|⟨b,o,rfl,G⟩
   ·exfalso;rw[p]at d;exact aC _ d
   have H:=G i N[i] (ah d);have q:=A.out N[i] (aK d)
   have I:Hid ((N.take (i+1)).foldl (rM N) (aA N.length ae)=rM N C N[i]):=by show _=_;rw[au d,aT,<-F.out];rfl
   generalize N[i]=n at H q I;have Y:=af q;obtain⟨ak,g,l,J,K,L,O,h,r⟩:=H;obtain⟨al,am,rfl,an,h⟩:=h;obtain⟨ao,ap,rfl,aq,r⟩:=r;have Z:=af h;have d0:=iU a.below l;have ar:=iU a.below J;have av:=iU a.below K;have aw:=iU a.below L;have aD:=iU a.below O;clear G m a q h r l J K L O;go_wp2
   go_loopw [22] (λs wr=>∃(j:Nat) (D:List Bool),s=.int .i64 j/\j<=n.keys.length/\D=(n.keys.take j).foldl (λM x=>jR N (N.length+1) x.toNat M) C/\IW w N #[.slice (ag ⟨b,o,aj⟩) N.length vc,.int .i64 root] D wr) (λs _=>n.keys.length - (intOf s).toNat)
   case atStart=>exact⟨0,_,rfl,aP _,rfl,c.out.alloc _⟩
   case round=>
    obtain⟨j,D,rfl,aE,t,a⟩:=hrel;have c:=af a;have P:=af t;have aF:wr.cell? ⟨w.heap.size,0,aj⟩=ag (.slice (ag ⟨b,o,aj⟩) N.length vc):=(aH a.box 0).trans rfl;have b1:wr.cell? ⟨w.heap.size,1,aj⟩=ag (.int .i64 root):=(aH a.box 1).trans rfl;by_cases f:j<n.keys.length
    ·have aG:(j:Int)<(n.keys.length:Int):=iE
     have hx:=Y.out.1 n.keys[j] (aK f);rcases Z.out with p|⟨aL,lo,rfl,u⟩
     ·exfalso;rw[p]at f;exact aC _ f
     have aa:=iU a.below (u j n.keys[j] (ah f))
     have Q:Hid ((n.keys.take (j+1)).foldl (λM x=>jR N (N.length+1) x.toNat M) C=jR N (N.length+1) n.keys[j].toNat D):=by show _=_;rw[au f,aT,<-P.out];rfl
     generalize n.keys[j]=x at hx aa Q;obtain⟨k,rfl⟩:=aJ hx.1;have ab:k<N.length:=(by have:=hx.2;omega);have aM:=af u;have ac:Hid (w.heap.size<=w.heap.size+1):=Nat.le_succ _;clear u hx t a
     go_wp2_with(go_at_call 102;refine(GY w wr _ N root k (w.heap.size+1) D U.out A.out c.out.below ac.out c.out.len c.out.row ab).mono ?_;rintro e w3 ⟨rfl,R,S⟩;have T:=af (And.intro R S);clear R S)
     go_roundw
     case rel=>exact⟨j+1,_,by go_num,iE,Q.out.symm,c.out.step T.out.1 T.out.2 (vK N _ _ _).1⟩
     case measure=>simp[intOf];omega
    ·obtain rfl:j=n.keys.length:=iE
     have y:Hid (D=rM N C n):=by show _=_;rw[P.out,aI];rfl
     clear t a;go_wp2;go_roundw
     case rel=>exact⟨i+1,_,by go_num,iE,rfl,by rw[I.out,<-y.out];exact c.out⟩
     case measure=>simp[intOf];omega
  ·obtain rfl:i=N.length:=iE
   have y:Hid (C=tu N):=by show _=_;rw[F.out,aI];rfl
   clear m a;go_wp2;go_ret;exact⟨rfl,c.out.below,by rw[<-y.out];exact c.out.row⟩
end Go.Proofs.YthcalnnipjflkaaGreatDoor
namespace Go.Proofs.YthcalnnipjflkaaGreatDoor
def jG:Nd:=⟨0,⟨#[]⟩,ae,[],[]⟩
def oC:List UInt8->Option (List UInt8×Nat)
 |[]=>aj
 |c::r=>
  if c=34 then ag ([],1)
  else if c=92 then match r with
   |[]=>aj
   |d::r2=>match oC r2 with
    |some (t,n)=>ag (d::t,n+2)
    |none=>aj
  else match oC r with
   |some (t,n)=>ag (c::t,n+1)
   |none=>aj
def CO (c:UInt8):Bool:=c==44||c==93||c==125||c==62||c==61||c==40||c==41
def jq (l:List UInt8):List UInt8:=l.takeWhile λc=>!CO c
def UD:List UInt8:=[48,49,50,51,52,53,54,55,56,57,97,98,99,100,101,102]
def hexN (c:UInt8):Int:=Lib.indexByte UD c
def xE (w R:List UInt8)(i:Nat):List UInt8:=R.set (i/2) ((R.getD (i/2) 0<<<4)|||UInt8.ofNat (hexN (w.getD i 0)).toNat)
def mV (w:List UInt8)(i:Nat):List UInt8:=(List.range i).foldl (xE w) (aA (w.length/2) 0)
def uG (w:List UInt8):Option (List UInt8):=if w.length%2=1 then aj else if w.any (λc=>decide (hexN c<0))then aj else ag (mV w w.length)
def sZ (w:List UInt8):Nd:=
 if w=[110,117,108,108]then jG
 else if w=[116,114,117,101]\/w=[102,97,108,115,101]then⟨1,⟨w.toArray⟩,ae,[],[]⟩
 else if w.any (λc=>c==112||c==110)then⟨4,⟨w.toArray⟩,ae,[],[]⟩
 else if w.any (λc=>c==101)then⟨3,⟨w.toArray⟩,ae,[],[]⟩
 else⟨2,⟨w.toArray⟩,ae,[],[]⟩
def kG (s:List UInt8)(p:Nat)(c:UInt8):Option Nat:=if s[p]?=ag c then ag (p+1)else aj
def kK (v:Nat->List Nd->Option (Nat×List Nd))(s:List UInt8)(b:UInt8)(c:Bool):Nat->Nat->List Nd->List Int->List Int->Option (Nat×List Nd×List Int×List Int)
 |0,_,_,_,_=>aj
 |f+1,p,N,d,is=>
  if s[p]?=ag b then ag (p+1,N,d,is)
  else match(if is=[]then ag p else kG s p 44)with
   |none=>aj
   |some g=>match c with
    |false=>match v g N with
     |none=>aj
     |some (e,a)=>kK v s b c f e a d (is++[(N.length:Int)])
    |true=>match v g N with
     |none=>aj
     |some (e,a)=>match kG s e 61 with
      |none=>aj
      |some h=>match v h a with
       |none=>aj
       |some (i,j)=>kK v s b c f i j (d++[(N.length:Int)]) (is++[(a.length:Int)])
def jd (s:List UInt8):Nat->Nat->List Nd->Option (Nat×List Nd)
 |0,_,_=>aj
 |k+1,p,N=>
  if 4096<=N.length then aj
  else match s[p]? with
   |some 34=>match oC (s.drop (p+1))with
    |some (t,n)=>ag (p+1+n,N++[⟨5,⟨t.toArray⟩,ae,[],[]⟩])
    |none=>aj
   |some 35=>match uG (jq (s.drop (p+1)))with
    |some t=>ag (p+1+(jq (s.drop (p+1))).length,N++[⟨6,⟨t.toArray⟩,ae,[],[]⟩])
    |none=>aj
   |some 64=>ag (p+1+(jq (s.drop (p+1))).length,N++[⟨7,⟨(jq (s.drop (p+1))).toArray⟩,ae,[],[]⟩])
   |some 37=>ag (p+1+(jq (s.drop (p+1))).length,N++[⟨8,⟨(jq (s.drop (p+1))).toArray⟩,ae,[],[]⟩])
   |some 33=>match kG s (p+1+(jq (s.drop (p+1))).length) 40 with
    |none=>aj
    |some d=>match jd s k d (N++[jG])with
     |none=>aj
     |some (a,b)=>match kG s a 41 with
      |none=>aj
      |some e=>ag (e,b.set N.length ⟨11,⟨(jq (s.drop (p+1))).toArray⟩,ae,[],[((N.length+1:Nat):Int)]⟩)
   |some 91=>match kK (jd s k) s 93 ae (s.length+2) (p+1) (N++[jG]) [] []with
    |none=>aj
    |some (a,b,c,is)=>ag (a,b.set N.length ⟨9,⟨#[]⟩,ae,c,is⟩)
   |some 123=>match kK (jd s k) s 125 ay (s.length+2) (p+1) (N++[jG]) [] []with
    |none=>aj
    |some (a,b,c,is)=>ag (a,b.set N.length ⟨10,⟨#[]⟩,ae,c,is⟩)
   |some 60=>match kK (jd s k) s 62 ay (s.length+2) (p+1) (N++[jG]) [] []with
    |none=>aj
    |some (a,b,c,is)=>ag (a,b.set N.length ⟨10,⟨#[]⟩,ay,c,is⟩)
   |_=>ag (p+(jq (s.drop p)).length,N++[sZ (jq (s.drop p))])
def wF (s:List UInt8):Option (List Nd):=match jd s 33 0 []with
 |some (p,N)=>if p=s.length then ag N else aj
 |none=>aj
end Go.Proofs.YthcalnnipjflkaaGreatDoor
