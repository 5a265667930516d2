import Derived.Test.YthcalnnipjflkaaGreatDoorP00
import Derived.Test.YthcalnnipjflkaaGreatDoorP03
import Derived.Lib.OthersKept
import Derived.Lib.TrimUEq
open List renaming replicate -> ae, setIfInBounds_toArray -> ax, take_succ_cons -> az, set_cons_zero -> aC, set_cons_succ -> aH, length_drop -> aJ, drop_eq_nil_of_le -> aK, take_zero -> aN, length_append -> aO, drop_drop -> aS
open Bool renaming false -> af, true -> ah
open Go.Lib renaming hid -> ag, decodeGo -> aI
open Nat renaming le_trans -> aj, le_refl -> aA, zero_le -> aT
open Go.Proofs.Tryz renaming prog -> au
open Go renaming World -> ay, wpQuiet_nil -> aP
open UInt8 renaming ofNat -> aB, toNat_inj -> aQ
set_option linter.all false
set_option maxHeartbeats 1000000
set_option maxRecDepth 100000
namespace Go.Proofs.YthcalnnipjflkaaGreatDoor
open Go.RowKit
open Go.Lib hiding intOf
theorem DN (s:ByteArray)(i:Nat):Utf8.decode s i=dec (s.data.toList.drop i):=by rw[decode_N];unfold dec;simp[List.getD_eq_getElem?_getD,List.getElem?_drop]
theorem Nz (s:ByteArray)(i:Nat)(h:i<s.size):aI (s.extract i s.size)=dec (s.data.toList.drop i):=by
 unfold aI;rw[gZ (by simp[ByteArray.size_extract];omega),DN]
 congr 1
 simp[ByteArray.data_extract];rw[List.take_of_length_le iH]
def cp:List UInt8->Option Nat
 |[]=>none
 |c::r=>if dec (c::r)=(65533,1)then some 0 else(cp (r.drop ((dec (c::r)).2 - 1))).map (·+(dec (c::r)).2)
termination_by l=>l.length
decreasing_by simp;omega
def DR:Option Nat->Value
 |none=>.tuple #[.int .i64 (-1),.int .i64 0]
 |some n=>.tuple #[.int .i64 n,.int .i64 11]
theorem NC (l:List UInt8):chk l=ah->cp l=none:=by
 induction hn:l.length using Nat.strongRecOn generalizing l with
 |_ n a=>
  cases l with
  |nil=>intro _;unfold cp;rfl
  |cons c r=>
   intro h;unfold chk at h;unfold cp;by_cases hd:dec (c::r)=(65533,1)
   ·rw[gY hd]at h;cases h
   ·rw[gZ hd]at h⊢
    rw[a _ (by subst hn;simp;omega) _ rfl h]
    rfl
def wQ (l:List UInt8)(pos:Nat):Prop:=pos<=l.length/\cp l=(cp (l.drop pos)).map (·+pos)
theorem ND (l:List UInt8):wQ l 0:=⟨aT _,iH⟩
theorem drop_cons {l:List UInt8}{pos:Nat}(h:pos<l.length):l.drop pos=l[pos]::l.drop (pos+1):=List.drop_eq_getElem_cons h
theorem NF {l:List UInt8}{pos:Nat}(h:wQ l pos)(hp:pos<l.length)(hd:dec (l.drop pos)=(65533,1)):cp l=some pos:=by rw[h.2,drop_cons hp];rw[drop_cons hp]at hd;unfold cp;rw[gY hd];simp
theorem NG {l:List UInt8}{pos r n:Nat}(h:wQ l pos)(hp:pos<l.length)(hd:dec (l.drop pos)=(r,n))(b:¬(r=65533/\n=1)):wQ l (pos+n):=by
 have hw:=AU l[pos] (l.drop (pos+1));have a:=DL l[pos] (l.drop (pos+1));rw[<-drop_cons hp,hd]at hw a;simp only[aJ]at a;refine⟨iE,?_⟩;rw[h.2,drop_cons hp]
 conv=>lhs;unfold cp
 rw[<-drop_cons hp,hd,gZ (by intro e;exact b (by simpa using e))];simp only[aS,Option.map_map];rw[show pos+1+(n - 1)=pos+n by omega]
 congr 1
 funext x
 simp;omega
theorem NH {l:List UInt8}{pos:Nat}(h:wQ l pos)(hp:¬pos<l.length):cp l=none:=by rw[h.2,aK iE];unfold cp;rfl
def Tabs (w:ay):Prop:=Lib.Utf8Tabs 1 2 w
theorem Tabs.lt {w:ay}(h:Tabs w):1<w.heap.size/\2<w.heap.size:=
 ⟨World.block_lt_of_cell? w _ (h.1 0 iG),World.block_lt_of_cell? w _ (h.2 0 iG).1⟩
theorem Tabs.below {w w':ay}(h:Tabs w)(a:Below w.heap.size w w'):Tabs w':=tabs_below h a h.lt.1 h.lt.2
theorem check_any (s:ByteArray)(w:ay)(j:Tabs w):
  Calls au 12 #[.string s] w λe w'=>e=.returned (DR (cp s.data.toList))/\Below w.heap.size w w':=by
 have x:=ag j;clear j;go_enter Tryz.func12,Tryz.ntmps12;go_wp2
 go_loopw [] (λwr=>∃pos:Nat,wr.heap[w.heap.size]?=some (.stringIter s pos)/\Below w.heap.size w wr/\wQ s.data.toList pos) (λwr=>s.size - wr.iterPos w.heap.size)
 case atStart=>exact⟨0,by have:=World.iter_heap w s 0;simpa using this,(Below.refl _ w).alloc (aA _) _,ND _⟩
 case round=>
  obtain⟨pos,hit,l,a⟩:=hrel;have G:s.data.toList.length=s.size:=iH
  by_cases hp:pos<s.size
  ·obtain⟨r,n,hd⟩:∃r n:Nat,Utf8.decode s pos=(r,n):=⟨_,_,rfl⟩
   have y:∀ty,(Instr.next (.pointer (some ⟨w.heap.size,0,none⟩)) ah ty).run au wr=.ok (.tuple #[.bool ah,.int .i64 pos,.int .i32 r]) (wr.iterAt w.heap.size s (pos+n)):=λty=>by rw[Lib.run_next_any_at wr w.heap.size s pos ty hit hp,hd]
   have m:=Lib.iterAt_heap wr w.heap.size s pos (pos+n) hit;have b:=Lib.below_iterAt l (k:=w.heap.size) (aA _) s (pos+n);have o:=ag (x.out.below b);have p:aI (s.extract pos s.size)=(r,n):=(by rw[Nz _ _ hp,<-DN,hd]);rw[DN]at hd;have g:r=65533->n=1->Hid (cp s.data.toList=some pos):=λz A=>by subst z A;exact NF a iE hd
   have c:¬(r=65533/\n=1)->Hid (wQ s.data.toList (pos+n)):=λh=>NG a iE hd h
   have H:1<=n:=by have:=AU s.data.toList[pos] (s.data.toList.drop (pos+1));rw[<-drop_cons iE,hd]at this;exact this
   have q:=ag hit;clear hd a hit;have t:=ag p;have d:=ag m;clear p m;have I:(pos:Int)<=s.size:=iE;by_cases hr:r=65533
   ·have B:((r:Int)==65533)=ah:=iI
    have u:=b.size;have v:w.heap.size<(wr.iterAt w.heap.size s (pos+n)).heap.size:=(Array.getElem?_eq_some_iff.1 d.out).1;by_cases hn:n=1
    ·have C:((n:Int)==1)=ah:=iI
     have D:=g hr hn;clear g c hr hn
     go_wp2_with(go_at_call 21;refine(Tryz.utf8_DecodeRuneInString _ _ o.out).mono ?_;rw[t.out];rintro e E ⟨rfl,f⟩)
     go_ret2;exact⟨by rw[D.out];rfl,b.trans (f.mono u)⟩
    ·have C:((n:Int)==1)=af:=iI
     have i:=c (λh=>hn h.2);clear g c hr hn
     go_wp2_with(go_at_call 21;refine(Tryz.utf8_DecodeRuneInString _ _ o.out).mono ?_;rw[t.out];rintro e E ⟨rfl,f⟩)
     go_roundw
     case rel=>exact⟨pos+n,by rw[f.block _ v];exact d.out,b.trans (f.mono u),i.out⟩
     case measure=>simp only[World.iterPos,f.block _ v,d.out,q.out];omega
   ·have B:((r:Int)==65533)=af:=iI
    have i:=c (λh=>hr h.1);clear g c;go_wp2;go_roundw
    case rel=>exact⟨pos+n,d.out,b,i.out⟩
    case measure=>simp only[World.iterPos,d.out,q.out];omega
  ·have y:∀ty,(Instr.next (.pointer (some ⟨w.heap.size,0,none⟩)) ah ty).run au wr=_:=λty=>Lib.run_next_end_at wr w.heap.size s pos ty hit hp
   have F:=ag (NH a iE);clear hit a;go_wp2;go_ret2;exact⟨by rw[F.out];rfl,l⟩
def afd (l:List UInt8)(i:Nat)(acc:List UInt8):Prop:=i<=l.length/\acc.length<=1+4*i/\acc++qb (l.drop i)=34::qb l
theorem afy (l:List UInt8):afd l 0 [34]:=⟨aT _,iH,iH⟩
theorem afz {l acc:List UInt8}{i r n:Nat}(h:afd l i acc)(hi:i<l.length)(hd:dec (l.drop i)=(r,n)):afd l (i+n) (acc++one l[i] (l.drop (i+1))):=by
 obtain⟨d,e,c⟩:=h;have hw:=AU l[i] (l.drop (i+1));have a:=DL l[i] (l.drop (i+1));have b:=afo l[i] (l.drop (i+1));rw[<-drop_cons hi,hd]at hw a b;simp only[aJ]at a hw b;refine⟨iE,by rw[aO];omega,?_⟩;rw[<-c,drop_cons hi]
 conv=>rhs;rw[qb]
 rw[<-drop_cons hi,hd,aS,show i+1+(n - 1)=i+n by omega,List.append_assoc]
theorem afA {l acc:List UInt8}{i:Nat}(h:afd l i acc)(hi:¬i<l.length):acc=34::qb l:=by have:=h.2.2;rw[aK iE]at this;simpa[qb]using this
theorem NL (w:ay)(c:UInt8):OwnB w.heap.size (.slice (some ⟨w.heap.size,0,none⟩) 1 1) [c] (w.alloc (.cells #[.int .u8 c.toNat] 5)):=
 ⟨rfl,.inr ⟨w.heap.size,1,_,rfl,aA _,heap_alloc_new w _,aA _,by unfold maxLen;decide,rfl,rfl⟩⟩
theorem Gm (d:Nat)(hd:d<16)(w:ay):(Instr.index 9 (.string ⟨#[48,49,50,51,52,53,54,55,56,57,97,98,99,100,101,102]⟩) (.int .u8 (d:Int))).run au w=.ok (.int .u8 ((qX (aB d)).toNat:Int)) w:=by
 have h:d=0\/d=1\/d=2\/d=3\/d=4\/d=5\/d=6\/d=7\/d=8\/d=9\/d=10\/d=11\/d=12\/d=13\/d=14\/d=15:=iE
 rcases h with rfl|rfl|rfl|rfl|rfl|rfl|rfl|rfl|rfl|rfl|rfl|rfl|rfl|rfl|rfl|rfl<;>(rw[run_index_string w _ _ _ _ Tryz.underlying9];rfl)
theorem NM (c:UInt8)(w:ay):(Instr.index 9 (.string ⟨#[48,49,50,51,52,53,54,55,56,57,97,98,99,100,101,102]⟩) (.int .u8 ((c.toNat:Int)/16))).run au w=.ok (.int .u8 ((qX (c/16)).toNat:Int)) w:=by have h:=Gm (c.toNat/16) (by have:=c.toNat_lt;omega) w;have e:aB (c.toNat/16)=c/16:=vz (p:=λc=>aB (c.toNat/16)=c/16) (by decide+kernel) c;rw[e]at h;exact h
theorem NP (c:UInt8)(w:ay):(Instr.index 9 (.string ⟨#[48,49,50,51,52,53,54,55,56,57,97,98,99,100,101,102]⟩) (.int .u8 (bits .and .u8 (c.toNat:Int) 15))).run au w=.ok (.int .u8 ((qX (c%16)).toNat:Int)) w:=by have h:=Gm (c.toNat%16) (Nat.mod_lt _ iG) w;have e:aB (c.toNat%16)=c%16:=vz (p:=λc=>aB (c.toNat%16)=c%16) (by decide+kernel) c;have a:bits .and .u8 (c.toNat:Int) 15=((c.toNat%16:Nat):Int):=vz (p:=λc=>bits .and .u8 (c.toNat:Int) 15=((c.toNat%16:Nat):Int)) (by decide+kernel) c;rw[e]at h;rw[a];exact h
theorem NQ {Q:Exit->Act->ay->Prop}{id:Nat}{a:Act}{w:ay}{l:List Oper}(n:Nat)(b c os:Oper){aF:Act}(ns:List UInt8){B:Nat}{v:Value}{acc:List UInt8}
  (g:l.length=n+3)(hs:Region.noSelect l.toArray=ah)(h:Mix.kN .any l.toArray n 0 (Array.replicate l.length af)=some (ae n ah++ae (l.length - n) af).toArray)
  (hd:Mix.kS a.tmps.size (l.take n) []=ah)(e:l[n]?=some b)(f:l[n+1]?=some c)(i:l[n+2]?=some os)(g1:b.guard=none)(g2:c.guard=none)(j:os.guard=none)
  (k:Region.ready .any l.toArray (ae n ah++ae 3 af).toArray=[n])
  (m:Region.ready .any l.toArray ((ae n ah++ae 3 af).toArray.setIfInBounds n ah)=[n+1])
  (o:Region.ready .any l.toArray (((ae n ah++ae 3 af).toArray.setIfInBounds n ah).setIfInBounds (n+1) ah)=[n+2])
  (p:Region.ready .any l.toArray ((((ae n ah++ae 3 af).toArray.setIfInBounds n ah).setIfInBounds (n+1) ah).setIfInBounds (n+2) ah)=[])
  (s x:Operand)(q:c.op=.call {callee:=.builtin .append,args:=#[s,x],argTypes:=#[49,49]})
  (r:OwnB B v acc w)(F:acc.length+ns.length<=140737488355328)(t:B<=w.heap.size)
  (hA:∀ρ:ay,wpQuiet au l.toArray (λw'=>∃n,w'=ρ.drewN n) (λa'=>a'=aF) (l.take n) a)
  (u:∀W:ay,(execOp aF.eval b).run au W=.ok (.value (.slice (some ⟨W.heap.size,0,none⟩) ns.length ns.length)) (W.alloc (.cells (byteCells ns).toArray 5)))
  (y:∀d,(aF.put b.dst d).eval s=v)(hx:∀d,(aF.put b.dst d).eval x=d)
  (z:∀d v' W,(execOp ((aF.put b.dst d).put c.dst v').eval os).run au W=.ok (.value v') W)
  (hK:∀v' W,OwnB B v' (acc++ns) W->Below B w W->Q .normal (((aF.put b.dst (.slice (some ⟨w.heap.size,0,none⟩) ns.length ns.length)).put c.dst v').put os.dst v') W):(Code.region id l.toArray ah).wp au Q a w:=by
 obtain⟨A,hi,C,D,E⟩:=info_parts xQ;refine Mix.NK n b c os iF g hs h hd e f i g1 g2 j k m o p hA (byteCells ns).toArray 5 ns.length ns.length u s x 49 q B A (.int .u8 0) 1 1 Tryz.underlying49 hi C D E rfl iG v acc.length (byteCells acc) r y hx (by simp[byteCells]) (by simpa using AP ns) (by unfold maxLen;omega) iE t z ?_;intro v' W e f;refine hK v' W ?_ f;unfold OwnB;rw[byteCells_append,aO];exact e
theorem afB (s:ByteArray)(w:ay)(hs:s.size<=35184372088000)(R:Tabs w):
  Calls au 38 #[.string s] w λe w'=>e=.returned (.string ⟨(34::qb s.data.toList++[34]).toArray⟩)/\Below w.heap.size w w':=by
 have ac:=ag R;clear R;go_enter Tryz.func38,Tryz.ntmps38;go_wp2
 go_loopw [3,4] (λb i wr=>∃(k:Nat) (acc:List UInt8),i=.int .i64 k/\OwnB w.heap.size b acc wr/\Below w.heap.size w wr/\afd s.data.toList k acc) (λ_ i _=>s.size - (intOf i).toNat)
 case atStart=>exact⟨0,[34],rfl,NL w 34,(Below.refl _ w).alloc (aA _) _,afy _⟩
 case round=>
  obtain⟨k,acc,rfl,L,H,G⟩:=hrel;have ad:s.data.toList.length=s.size:=iH
  have f:=H.size;by_cases hp:k<s.size
  ·obtain⟨r,n,hd⟩:∃r n:Nat,dec (s.data.toList.drop k)=(r,n):=⟨_,_,rfl⟩
   have S:aI (s.extract k s.size)=(r,n):=(by rw[Nz _ _ hp,hd]);have z:=ag (ac.out.below H);have T:(s.data.toList)[k]' iE=s[k]:=rfl
   have O:=afz G iE hd;rw[T]at O;have U:=G.2.1
   have ai:n<=s.size - k/\1<=n:=by have:=AU s.data.toList[k] (s.data.toList.drop (k+1));have V:=DL s.data.toList[k] (s.data.toList.drop (k+1));rw[<-drop_cons iE,hd]at this V;simp only[aJ]at V this;omega
   obtain⟨ar,av⟩:=ai;have aw:(k:Int)<=s.size:=iE;have hdr:s.data.toList.drop k=s[k]::s.data.toList.drop (k+1):=drop_cons iE;generalize ak:s.data.toList.drop (k+1)=rest at*;rw[hdr]at hd;have A:=ag S;have al:=ag hdr.symm;have j:=ag O;have t:=ag hd;have v:=ag L;have x:=ag H;clear S O hd L H G hdr ak T;have aD:IntKind.i64.wrap ((k:Int)+n)=(k:Int)+n:=IntWalk.i64_in _ iE;by_cases l:s[k]=92
   ·have g0:((s[k].toNat:Int)==92)=ah:=by rw[l];rfl
    have m:one s[k] rest=[92,s[k]]:=(by unfold one;rw[gY (.inl l)]);rw[m]at j;clear t m l
    go_wp2_with(first
     |(go_at_call 21;refine(Tryz.utf8_DecodeRuneInString _ _ z.out).mono ?_;rw[A.out];rintro e D ⟨rfl,a⟩)
     |(at_builtin;refine xR _ rfl _ _ rfl [92,s[k]] rfl (v.out.below a) _ rfl _ rfl iI (aj f a.size) ?_;intro v' B c g))
    go_roundw
    case rel=>exact⟨k+n,_,iH,c,(x.out.trans (a.mono f)).trans g,j.out⟩
    case measure=>simp[intOf];omega
   by_cases o:s[k]=34
   ·have g0:((s[k].toNat:Int)==92)=af:=by rw[o];rfl
    have g1:((s[k].toNat:Int)==34)=ah:=(by rw[o];rfl);have m:one s[k] rest=[92,s[k]]:=(by unfold one;rw[gY (.inr o)]);rw[m]at j;clear t m o l
    go_wp2_with(first
     |(go_at_call 21;refine(Tryz.utf8_DecodeRuneInString _ _ z.out).mono ?_;rw[A.out];rintro e D ⟨rfl,a⟩)
     |(at_builtin;refine xR _ rfl _ _ rfl [92,s[k]] rfl (v.out.below a) _ rfl _ rfl iI (aj f a.size) ?_;intro v' B c g))
    go_roundw
    case rel=>exact⟨k+n,_,iH,c,(x.out.trans (a.mono f)).trans g,j.out⟩
    case measure=>simp[intOf];omega
   by_cases p:s[k]=10
   ·have g0:((s[k].toNat:Int)==92)=af:=by rw[p];rfl
    have g1:((s[k].toNat:Int)==34)=af:=(by rw[p];rfl);have g2:((s[k].toNat:Int)==10)=ah:=(by rw[p];rfl);have m:one s[k] rest=[92,110]:=(by unfold one;rw[gZ (by simp[l,o]),gY p]);rw[m]at j;clear t m p l o
    go_wp2_with(first
     |(go_at_call 21;refine(Tryz.utf8_DecodeRuneInString _ _ z.out).mono ?_;rw[A.out];rintro e D ⟨rfl,a⟩)
     |(at_builtin;refine xR _ rfl _ _ rfl [92,110] rfl (v.out.below a) _ rfl _ rfl iI (aj f a.size) ?_;intro v' B c g))
    go_roundw
    case rel=>exact⟨k+n,_,iH,c,(x.out.trans (a.mono f)).trans g,j.out⟩
    case measure=>simp[intOf];omega
   by_cases u:s[k]=13
   ·have g0:((s[k].toNat:Int)==92)=af:=by rw[u];rfl
    have g1:((s[k].toNat:Int)==34)=af:=(by rw[u];rfl);have g2:((s[k].toNat:Int)==10)=af:=(by rw[u];rfl);have X:((s[k].toNat:Int)==13)=ah:=(by rw[u];rfl);have m:one s[k] rest=[92,114]:=(by unfold one;rw[gZ (by simp[l,o]),gZ p,gY u]);rw[m]at j;clear t m u l o p
    go_wp2_with(first
     |(go_at_call 21;refine(Tryz.utf8_DecodeRuneInString _ _ z.out).mono ?_;rw[A.out];rintro e D ⟨rfl,a⟩)
     |(at_builtin;refine xR _ rfl _ _ rfl [92,114] rfl (v.out.below a) _ rfl _ rfl iI (aj f a.size) ?_;intro v' B c g))
    go_roundw
    case rel=>exact⟨k+n,_,iH,c,(x.out.trans (a.mono f)).trans g,j.out⟩
    case measure=>simp[intOf];omega
   by_cases y:s[k]=9
   ·have g0:((s[k].toNat:Int)==92)=af:=by rw[y];rfl
    have g1:((s[k].toNat:Int)==34)=af:=(by rw[y];rfl);have g2:((s[k].toNat:Int)==10)=af:=(by rw[y];rfl);have X:((s[k].toNat:Int)==13)=af:=(by rw[y];rfl);have am:((s[k].toNat:Int)==9)=ah:=(by rw[y];rfl);have m:one s[k] rest=[92,116]:=(by unfold one;rw[gZ (by simp[l,o]),gZ p,gZ u,gY y]);rw[m]at j;clear t m y l o p u
    go_wp2_with(first
     |(go_at_call 21;refine(Tryz.utf8_DecodeRuneInString _ _ z.out).mono ?_;rw[A.out];rintro e D ⟨rfl,a⟩)
     |(at_builtin;refine xR _ rfl _ _ rfl [92,116] rfl (v.out.below a) _ rfl _ rfl iI (aj f a.size) ?_;intro v' B c g))
    go_roundw
    case rel=>exact⟨k+n,_,iH,c,(x.out.trans (a.mono f)).trans g,j.out⟩
    case measure=>simp[intOf];omega
   have ne:∀b:UInt8,s[k]≠b->((s[k].toNat:Int)==(b.toNat:Int))=af:=λb h=>by simp only[iy,ne_eq,Int.ofNat_inj];exact λe=>h (aQ.1 e)
   have g0:((s[k].toNat:Int)==92)=af:=ne 92 l;have g1:((s[k].toNat:Int)==34)=af:=ne 34 o;have g2:((s[k].toNat:Int)==10)=af:=ne 10 p;have X:((s[k].toNat:Int)==13)=af:=ne 13 u;have am:((s[k].toNat:Int)==9)=af:=ne 9 y
   have E:(dec (s[k]::rest)=(65533,1)\/s[k]<32\/s[k]=127)->one s[k] rest=[92,120,qX (s[k]/16),qX (s[k]%16)]:=λh=>by unfold one;rw[gZ (by simp[l,o]),gZ p,gZ u,gZ y,gY h]
   have I:¬(dec (s[k]::rest)=(65533,1)\/s[k]<32\/s[k]=127)->one s[k] rest=(s[k]::rest).take n:=λh=>by unfold one;rw[gZ (by simp[l,o]),gZ p,gZ u,gZ y,gZ h,t.out]
   have hx:∀d:UInt8,d<16->d.toNat<16:=λd h=>h
   clear ne l o p u y;by_cases C:r=65533/\n=1
   ·have aE:((r:Int)==65533)=ah:=by rw[C.1];rfl
    have P:((n:Int)==1)=ah:=(by rw[C.2];rfl);rw[E (.inl (by rw[t.out,C.1,C.2]))]at j;clear t C E I
    go_wp2_with(first
     |(go_at_call 21;refine(Tryz.utf8_DecodeRuneInString _ _ z.out).mono ?_;rw[A.out];rintro e D ⟨rfl,a⟩))
    have J:=NM s[k];have i2:=NP s[k];refine NQ (aF:=?_) 7 _ _ _ [92,120,qX (s[k]/16),qX (s[k]%16)] rfl iF iF iF rfl rfl rfl rfl rfl rfl iF iF iF iF _ _ rfl (v.out.below a) iI (aj f a.size) ?_ ?_ ?_ ?_ ?_ ?_;rotate_left 1
    ·intro ρ
     simp only[az,aN]
     repeat(go_big_quiet_step(fail))
     refine aP ?_;exact rfl
    ·intro W
     go_simp
     rfl
    ·intro F;rfl
    ·intro F;rfl
    ·intro F v' W;rfl
    ·clear J i2
     intro v' B c g;simp only[Act.put,ax,aC,aH];go_wp2;go_roundw
     case rel=>exact⟨k+n,_,iH,c,(x.out.trans (a.mono f)).trans g,j.out⟩
     case measure=>simp[intOf];omega
   have q:((r:Int)==65533)=af\/(((r:Int)==65533)=ah/\((n:Int)==1)=af):=by
    by_cases h:r=65533
    ·exact .inr ⟨iI,iI⟩
    ·exact .inl iI
   have an:(s[k].toNat:Int)=127->s[k]=127:=λh=>aQ.1 (by have e:(127:UInt8).toNat=127:=rfl;omega)
   have Y:(s[k]<32)=((s[k].toNat:Int)<32):=propext ⟨λh=>by have:s[k].toNat<32:=h;omega,λh=>by show s[k].toNat<32;omega⟩;have Z:(s[k]=127)=(((s[k].toNat:Int)==127)=ah):=propext ⟨λh=>by rw[h];rfl,λh=>an (by simpa using h)⟩;have M:¬dec (s[k]::rest)=(65533,1):=(by rw[t.out];simpa using C);rw[Y,Z]at E I;clear Y Z;by_cases Q:(s[k].toNat:Int)<32
   ·rw[E (.inr (.inl Q))]at j
    clear t C E I M;rcases q with q|⟨q,P⟩
    all_goals
     go_wp2_with(first
      |(go_at_call 21;refine(Tryz.utf8_DecodeRuneInString _ _ z.out).mono ?_;rw[A.out];rintro e D ⟨rfl,a⟩))
     clear Q;have J:=NM s[k];have i2:=NP s[k];refine NQ (aF:=?_) 7 _ _ _ [92,120,qX (s[k]/16),qX (s[k]%16)] rfl iF iF iF rfl rfl rfl rfl rfl rfl iF iF iF iF _ _ rfl (v.out.below a) iI (aj f a.size) ?_ ?_ ?_ ?_ ?_ ?_;rotate_left 1
     ·intro ρ
      simp only[az,aN]
      repeat(go_big_quiet_step(fail))
      refine aP ?_;exact rfl
     ·intro W
      go_simp
      rfl
     ·intro F;rfl
     ·intro F;rfl
     ·intro F v' W;rfl
     ·clear J i2
      intro v' B c g;simp only[Act.put,ax,aC,aH];go_wp2;go_roundw
      case rel=>exact⟨k+n,_,iH,c,(x.out.trans (a.mono f)).trans g,j.out⟩
      case measure=>simp[intOf];omega
   by_cases K:((s[k].toNat:Int)==127)=ah
   ·rw[E (.inr (.inr K))]at j
    clear t C E I M;rcases q with q|⟨q,P⟩
    all_goals
     go_wp2_with(first
      |(go_at_call 21;refine(Tryz.utf8_DecodeRuneInString _ _ z.out).mono ?_;rw[A.out];rintro e D ⟨rfl,a⟩))
     clear K;have J:=NM s[k];have i2:=NP s[k];refine NQ (aF:=?_) 7 _ _ _ [92,120,qX (s[k]/16),qX (s[k]%16)] rfl iF iF iF rfl rfl rfl rfl rfl rfl iF iF iF iF _ _ rfl (v.out.below a) iI (aj f a.size) ?_ ?_ ?_ ?_ ?_ ?_;rotate_left 1
     ·intro ρ
      simp only[az,aN]
      repeat(go_big_quiet_step(fail))
      refine aP ?_;exact rfl
     ·intro W
      go_simp
      rfl
     ·intro F;rfl
     ·intro F;rfl
     ·intro F v' W;rfl
     ·clear J i2
      intro v' B c g;simp only[Act.put,ax,aC,aH];go_wp2;go_roundw
      case rel=>exact⟨k+n,_,iH,c,(x.out.trans (a.mono f)).trans g,j.out⟩
      case measure=>simp[intOf];omega
   have aa:s.extract k (k+n)=⟨((s[k]::rest).take n).toArray⟩:=ext_list (by rw[al.out];simp[ByteArray.data_extract])
   have ao:=ag aa;have aG:((s[k].toNat:Int)==127)=af:=(by simpa using K);rw[I (by rintro(h|h|h);exact M h;exact Q h;exact K h)]at j;clear t C E I aa K M;have b2:((k:Int)+n).toNat=k+n:=iE;have b3:(k:Int)<=(k:Int)+n:=iE;have aL:(k:Int)+n<=s.size:=iE;rcases q with q|⟨q,P⟩
   all_goals
    go_wp2_with(first
     |(go_at_call 21;refine(Tryz.utf8_DecodeRuneInString _ _ z.out).mono ?_;rw[A.out];rintro e D ⟨rfl,a⟩)
     |(at_builtin;refine Nj _ rfl _ _ rfl rfl (v.out.below a) (s.extract k (k+n)) rfl (by simp[ByteArray.size_extract];omega) (aj f a.size) ?_;intro v' B c g aM))
    rw[ao.out]at c;go_roundw
    case rel=>exact⟨k+n,_,iH,c,(x.out.trans (a.mono f)).trans g,j.out⟩
    case measure=>simp[intOf];omega
  ·obtain rfl:=afA G iE
   have U:=G.2.1;have ap:=G.1;rw[ad]at ap;have ab:(34::qb s.data.toList).length+1<=140737488355328:=iE;have v:=ag L;have x:=ag H;clear L H G U
   go_wp2_with(at_builtin;refine xR _ rfl _ _ rfl [34] rfl v.out _ rfl _ rfl ab f ?_)
   intro v' B c g;obtain⟨aR,a0,rfl⟩:=c.slice;have aq:=F5 c;have N:(34::(qb s.data.toList++[34])).length=(qb s.data.toList).length+1+1:=iH;rw[N]at aq;simp only[N];have a1:=ag N;clear N ab;go_wp2;go_ret;exact⟨rfl,x.out.trans g⟩
