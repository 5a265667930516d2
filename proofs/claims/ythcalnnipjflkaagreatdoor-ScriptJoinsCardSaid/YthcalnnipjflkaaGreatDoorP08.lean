import Derived.Test.YthcalnnipjflkaaGreatDoorP00
import Derived.Test.YthcalnnipjflkaaGreatDoorP05
import Derived.Lib.OthersKept
import Derived.Lib.TrimUEq
open Bool renaming false -> ae, true -> af
open Go renaming World -> ag, Value -> au, heap_alloc_new -> az
open Array renaming replicate -> ah, getElem?_eq_some_iff -> ay
open Option renaming none -> aj, some -> ax
set_option linter.all false
set_option maxHeartbeats 1000000
namespace Go.Proofs.YthcalnnipjflkaaGreatDoor
open Go.RowKit
open Go.Lib hiding intOf
theorem DN (s:ByteArray)(i:Nat):Utf8.decode s i=dec (s.data.toList.drop i):=by rw[decode_N];unfold dec;simp[List.getD_eq_getElem?_getD,List.getElem?_drop]
theorem Nz (s:ByteArray)(i:Nat)(h:i<s.size):Lib.decodeGo (s.extract i s.size)=dec (s.data.toList.drop i):=by
 unfold Lib.decodeGo;rw[gZ (by simp[ByteArray.size_extract];omega),DN]
 congr 1
 simp[ByteArray.data_extract];rw[List.take_of_length_le iH]
def cp:List UInt8->Option Nat
 |[]=>aj
 |c::r=>if dec (c::r)=(65533,1)then ax 0 else(cp (r.drop ((dec (c::r)).2 - 1))).map (·+(dec (c::r)).2)
termination_by l=>l.length
decreasing_by simp;omega
def DR:Option Nat->au
 |none=>.tuple #[.int .i64 (-1),.int .i64 0]
 |some n=>.tuple #[.int .i64 n,.int .i64 11]
theorem NC (l:List UInt8):chk l=af->cp l=aj:=by
 induction hn:l.length using Nat.strongRecOn generalizing l with
 |_ n a=>
  cases l with
  |nil=>intro _;unfold cp;rfl
  |cons c r=>
   intro h;unfold chk at h;unfold cp;by_cases hd:dec (c::r)=(65533,1)
   ·rw[gY hd]at h;cases h
   ·rw[gZ hd]at h⊢
    rw[a _ (by subst hn;simp;omega) _ rfl h]
    rfl
def wQ (l:List UInt8)(pos:Nat):Prop:=pos<=l.length/\cp l=(cp (l.drop pos)).map (·+pos)
theorem ND (l:List UInt8):wQ l 0:=⟨Nat.zero_le _,iH⟩
theorem drop_cons {l:List UInt8}{pos:Nat}(h:pos<l.length):l.drop pos=l[pos]::l.drop (pos+1):=List.drop_eq_getElem_cons h
theorem NF {l:List UInt8}{pos:Nat}(h:wQ l pos)(hp:pos<l.length)(hd:dec (l.drop pos)=(65533,1)):cp l=ax pos:=by rw[h.2,drop_cons hp];rw[drop_cons hp]at hd;unfold cp;rw[gY hd];simp
theorem NG {l:List UInt8}{pos r n:Nat}(h:wQ l pos)(hp:pos<l.length)(hd:dec (l.drop pos)=(r,n))(b:¬(r=65533/\n=1)):wQ l (pos+n):=by
 have hw:=AU l[pos] (l.drop (pos+1));have a:=DL l[pos] (l.drop (pos+1));rw[<-drop_cons hp,hd]at hw a;simp only[List.length_drop]at a;refine⟨iE,?_⟩;rw[h.2,drop_cons hp]
 conv=>lhs;unfold cp
 rw[<-drop_cons hp,hd,gZ (by intro e;exact b (by simpa using e))];simp only[List.drop_drop,Option.map_map];rw[show pos+1+(n - 1)=pos+n by omega]
 congr 1
 funext x
 simp;omega
theorem NH {l:List UInt8}{pos:Nat}(h:wQ l pos)(hp:¬pos<l.length):cp l=aj:=by rw[h.2,List.drop_eq_nil_of_le iE];unfold cp;rfl
def Tabs (w:ag):Prop:=Lib.Utf8Tabs 1 2 w
theorem Tabs.lt {w:ag}(h:Tabs w):1<w.heap.size/\2<w.heap.size:=
 ⟨World.block_lt_of_cell? w _ (h.1 0 iG),World.block_lt_of_cell? w _ (h.2 0 iG).1⟩
theorem Tabs.below {w w':ag}(h:Tabs w)(a:Below w.heap.size w w'):Tabs w':=tabs_below h a h.lt.1 h.lt.2
theorem check_any (s:ByteArray)(w:ag)(j:Tabs w):
  Calls Tryz.prog 12 #[.string s] w λe w'=>e=.returned (DR (cp s.data.toList))/\Below w.heap.size w w':=by
 have x:=Lib.hid j;clear j;go_enter Tryz.func12,Tryz.ntmps12;go_wp2
 go_loopw [] (λwr=>∃pos:Nat,wr.heap[w.heap.size]?=ax (.stringIter s pos)/\Below w.heap.size w wr/\wQ s.data.toList pos) (λwr=>s.size - wr.iterPos w.heap.size)
 case atStart=>exact⟨0,by have:=World.iter_heap w s 0;simpa using this,(Below.refl _ w).alloc (Nat.le_refl _) _,ND _⟩
 case round=>
  obtain⟨pos,hit,l,a⟩:=hrel;have G:s.data.toList.length=s.size:=iH
  by_cases hp:pos<s.size
  ·obtain⟨r,n,hd⟩:∃r n:Nat,Utf8.decode s pos=(r,n):=⟨_,_,rfl⟩
   have y:∀ty,(Instr.next (.pointer (ax ⟨w.heap.size,0,aj⟩)) af ty).run Tryz.prog wr=.ok (.tuple #[.bool af,.int .i64 pos,.int .i32 r]) (wr.iterAt w.heap.size s (pos+n)):=λty=>by rw[Lib.run_next_any_at wr w.heap.size s pos ty hit hp,hd]
   have m:=Lib.iterAt_heap wr w.heap.size s pos (pos+n) hit;have b:=Lib.below_iterAt l (k:=w.heap.size) (Nat.le_refl _) s (pos+n);have o:=Lib.hid (x.out.below b);have p:Lib.decodeGo (s.extract pos s.size)=(r,n):=(by rw[Nz _ _ hp,<-DN,hd]);rw[DN]at hd;have g:r=65533->n=1->Hid (cp s.data.toList=ax pos):=λz A=>by subst z A;exact NF a iE hd
   have c:¬(r=65533/\n=1)->Hid (wQ s.data.toList (pos+n)):=λh=>NG a iE hd h
   have H:1<=n:=by have:=AU s.data.toList[pos] (s.data.toList.drop (pos+1));rw[<-drop_cons iE,hd]at this;exact this
   have q:=Lib.hid hit;clear hd a hit;have t:=Lib.hid p;have d:=Lib.hid m;clear p m;have I:(pos:Int)<=s.size:=iE;by_cases hr:r=65533
   ·have B:((r:Int)==65533)=af:=iI
    have u:=b.size;have v:w.heap.size<(wr.iterAt w.heap.size s (pos+n)).heap.size:=(ay.1 d.out).1;by_cases hn:n=1
    ·have C:((n:Int)==1)=af:=iI
     have D:=g hr hn;clear g c hr hn
     go_wp2_with(go_at_call 21;refine(Tryz.utf8_DecodeRuneInString _ _ o.out).mono ?_;rw[t.out];rintro e E ⟨rfl,f⟩)
     go_ret2;exact⟨by rw[D.out];rfl,b.trans (f.mono u)⟩
    ·have C:((n:Int)==1)=ae:=iI
     have i:=c (λh=>hn h.2);clear g c hr hn
     go_wp2_with(go_at_call 21;refine(Tryz.utf8_DecodeRuneInString _ _ o.out).mono ?_;rw[t.out];rintro e E ⟨rfl,f⟩)
     go_roundw
     case rel=>exact⟨pos+n,by rw[f.block _ v];exact d.out,b.trans (f.mono u),i.out⟩
     case measure=>simp only[World.iterPos,f.block _ v,d.out,q.out];omega
   ·have B:((r:Int)==65533)=ae:=iI
    have i:=c (λh=>hr h.1);clear g c;go_wp2;go_roundw
    case rel=>exact⟨pos+n,d.out,b,i.out⟩
    case measure=>simp only[World.iterPos,d.out,q.out];omega
  ·have y:∀ty,(Instr.next (.pointer (ax ⟨w.heap.size,0,aj⟩)) af ty).run Tryz.prog wr=_:=λty=>Lib.run_next_end_at wr w.heap.size s pos ty hit hp
   have F:=Lib.hid (NH a iE);clear hit a;go_wp2;go_ret2;exact⟨by rw[F.out];rfl,l⟩
def oG (w0:ag)(n:Nat)(w:ag)(v:au):Prop:=∃b,v=.slice (ax ⟨b,0,aj⟩) n n/\w0.heap.size<=b/\w.heap[b]?=ax (.cells (ah n (.int .i64 0)) 3)
def l9 (w0:ag)(w:ag)(v c:au):Prop:=∃b,v=.pointer (ax ⟨b,0,aj⟩)/\w0.heap.size<=b/\w.heap[b]?=ax (.cells #[c] 36)
theorem block_lt {w:ag}{b:Nat}{o:Obj}(h:w.heap[b]?=ax o):b<w.heap.size:=(ay.1 h).1
theorem oG.alloc {w0:ag}{n:Nat}{w:ag}{v:au}(h:oG w0 n w v)(o:Obj):oG w0 n (w.alloc o) v:=by obtain⟨b,c,d,a⟩:=h;exact⟨b,c,d,by rw[Lib.alloc_old _ _ _ (block_lt a)];exact a⟩
theorem l9.alloc {w0:ag}{w:ag}{v c:au}(h:l9 w0 w v c)(o:Obj):l9 w0 (w.alloc o) v c:=by obtain⟨b,d,e,a⟩:=h;exact⟨b,d,e,by rw[Lib.alloc_old _ _ _ (block_lt a)];exact a⟩
theorem oG.new (w0:ag)(n:Nat)(w:ag)(h:w0.heap.size<=w.heap.size):oG w0 n (w.alloc (.cells (ah n (.int .i64 0)) 3)) (.slice (ax ⟨w.heap.size,0,aj⟩) n n):=⟨_,rfl,h,az w _⟩
theorem l9.new (w0:ag)(w:ag)(c:au)(h:w0.heap.size<=w.heap.size):l9 w0 (w.alloc (.cells #[c] 36)) (.pointer (ax ⟨w.heap.size,0,aj⟩)) c:=⟨_,rfl,h,az w _⟩
theorem oG.fresh {w0:ag}{n:Nat}{w:ag}{v:au}(h:oG w0 n w v):v≠.slice (ax ⟨w.heap.size,0,aj⟩) n n:=by obtain⟨b,rfl,c,a⟩:=h;intro e;have d:=block_lt a;simp only[Value.slice.injEq,Option.some.injEq,Addr.mk.injEq]at e;omega
theorem l9.fresh {w0:ag}{w:ag}{v c:au}(h:l9 w0 w v c):v≠.pointer (ax ⟨w.heap.size,0,aj⟩):=by obtain⟨b,rfl,d,a⟩:=h;intro e;have f:=block_lt a;simp only[Value.pointer.injEq,Option.some.injEq,Addr.mk.injEq]at e;omega
theorem oG.set {w0:ag}{n:Nat}{w:ag}{v:au}(h:oG w0 n w v){b:Nat}{c:au}(e:w.heap[b]?=ax (.cells #[c] 36))(x:au):oG w0 n (w.setCell ⟨b,0,aj⟩ x) v:=by
 obtain⟨d,f,g,a⟩:=h;refine⟨d,f,g,?_⟩;rw[jm]
 ·exact a
 ·rintro rfl
  rw[e]at a;simp at a
theorem l9.set {w0:ag}{w:ag}{v c:au}(h:l9 w0 w v c){b:Nat}(a:v≠.pointer (ax ⟨b,0,aj⟩))(x:au):l9 w0 (w.setCell ⟨b,0,aj⟩ x) v c:=by
 obtain⟨d,rfl,e,f⟩:=h;refine⟨d,rfl,e,?_⟩;rw[jm]
 ·exact f
 ·rintro rfl;exact a rfl
theorem l9.put {w0:ag}{w:ag}{b:Nat}{c:au}(a:w0.heap.size<=b)(d:w.heap[b]?=ax (.cells #[c] 36))(x:au):l9 w0 (w.setCell ⟨b,0,aj⟩ x) (.pointer (ax ⟨b,0,aj⟩)) x:=by refine⟨b,rfl,a,?_⟩;simp[World.setCell,Array.getElem?_modify,d]
theorem iT (L:Array Bool)(i j:Nat):(L.setIfInBounds i af).getD j ae=if i=j then(L.getD j ae||decide (i<L.size))else L.getD j ae:=by
 simp only[Array.getD_eq_getD_getElem?,Array.getElem?_setIfInBounds];split
 ·rename_i h;subst h
  by_cases h:i<L.size
  ·simp[h]
  ·simp[h]
 ·rfl
structure R3 (w0:ag)(n:Nat)(L:Array Bool)(x5 x6 x7 x17 x18 x19 x20 x21 jk:au)(w:ag):Prop where
 below:Below w0.heap.size w0 w
 size:L.size=12
 m0:L.getD 0 ae=af->x17=.int .i64 n
 m2:L.getD 2 ae=af->x19=.int .i64 n
 m4:L.getD 4 ae=af->x21=.int .i64 n
 r1:L.getD 1 ae=af->oG w0 n w x18
 r3:L.getD 3 ae=af->oG w0 n w x20
 r5:L.getD 5 ae=af->oG w0 n w jk
 v6:L.getD 6 ae=af->l9 w0 w x5 (if L.getD 9 ae then x18 else .slice aj 0 0)
 v7:L.getD 7 ae=af->l9 w0 w x6 (if L.getD 10 ae then x20 else .slice aj 0 0)
 v8:L.getD 8 ae=af->l9 w0 w x7 (if L.getD 11 ae then jk else .slice aj 0 0)
 d13:L.getD 1 ae=af->L.getD 3 ae=af->x18≠x20
 d15:L.getD 1 ae=af->L.getD 5 ae=af->x18≠jk
 d35:L.getD 3 ae=af->L.getD 5 ae=af->x20≠jk
 d67:L.getD 6 ae=af->L.getD 7 ae=af->x5≠x6
 d68:L.getD 6 ae=af->L.getD 8 ae=af->x5≠x7
 d78:L.getD 7 ae=af->L.getD 8 ae=af->x6≠x7
 s9:L.getD 9 ae=af->L.getD 6 ae=af
 s10:L.getD 10 ae=af->L.getD 7 ae=af
 s11:L.getD 11 ae=af->L.getD 8 ae=af
theorem R3.move0 {w0:ag}{n:Nat}{L:Array Bool}{b c d k e f g i j:au}{w:ag}(h:R3 w0 n L b c d k e f g i j w):R3 w0 n (L.setIfInBounds 0 af) b c d (.int .i64 n) e f g i j w:=by
 have a:=h.size;constructor
 case below=>exact h.below
 case size=>simpa using a
 case m0=>exact λ_=>rfl
 case m2=>simpa[iT,a]using h.m2
 case m4=>simpa[iT,a]using h.m4
 case r1=>simpa[iT,a]using h.r1
 case r3=>simpa[iT,a]using h.r3
 case r5=>simpa[iT,a]using h.r5
 case v6=>simpa[iT,a]using h.v6
 case v7=>simpa[iT,a]using h.v7
 case v8=>simpa[iT,a]using h.v8
 case d13=>simpa[iT,a]using h.d13
 case d15=>simpa[iT,a]using h.d15
 case d35=>simpa[iT,a]using h.d35
 case d67=>simpa[iT,a]using h.d67
 case d68=>simpa[iT,a]using h.d68
 case d78=>simpa[iT,a]using h.d78
 case s9=>simpa[iT,a]using h.s9
 case s10=>simpa[iT,a]using h.s10
 case s11=>simpa[iT,a]using h.s11
theorem R3.U3 {w0:ag}{n:Nat}{L:Array Bool}{b c d e f k g i j:au}{w:ag}(h:R3 w0 n L b c d e f k g i j w):R3 w0 n (L.setIfInBounds 2 af) b c d e f (.int .i64 n) g i j w:=by
 have a:=h.size;constructor
 case below=>exact h.below
 case size=>simpa using a
 case m0=>simpa[iT,a]using h.m0
 case m2=>exact λ_=>rfl
 case m4=>simpa[iT,a]using h.m4
 case r1=>simpa[iT,a]using h.r1
 case r3=>simpa[iT,a]using h.r3
 case r5=>simpa[iT,a]using h.r5
 case v6=>simpa[iT,a]using h.v6
 case v7=>simpa[iT,a]using h.v7
 case v8=>simpa[iT,a]using h.v8
 case d13=>simpa[iT,a]using h.d13
 case d15=>simpa[iT,a]using h.d15
 case d35=>simpa[iT,a]using h.d35
 case d67=>simpa[iT,a]using h.d67
 case d68=>simpa[iT,a]using h.d68
 case d78=>simpa[iT,a]using h.d78
 case s9=>simpa[iT,a]using h.s9
 case s10=>simpa[iT,a]using h.s10
 case s11=>simpa[iT,a]using h.s11
theorem R3.U7 {w0:ag}{n:Nat}{L:Array Bool}{b c d e f g i k j:au}{w:ag}(h:R3 w0 n L b c d e f g i k j w):R3 w0 n (L.setIfInBounds 4 af) b c d e f g i (.int .i64 n) j w:=by
 have a:=h.size;constructor
 case below=>exact h.below
 case size=>simpa using a
 case m0=>simpa[iT,a]using h.m0
 case m2=>simpa[iT,a]using h.m2
 case m4=>exact λ_=>rfl
 case r1=>simpa[iT,a]using h.r1
 case r3=>simpa[iT,a]using h.r3
 case r5=>simpa[iT,a]using h.r5
 case v6=>simpa[iT,a]using h.v6
 case v7=>simpa[iT,a]using h.v7
 case v8=>simpa[iT,a]using h.v8
 case d13=>simpa[iT,a]using h.d13
 case d15=>simpa[iT,a]using h.d15
 case d35=>simpa[iT,a]using h.d35
 case d67=>simpa[iT,a]using h.d67
 case d68=>simpa[iT,a]using h.d68
 case d78=>simpa[iT,a]using h.d78
 case s9=>simpa[iT,a]using h.s9
 case s10=>simpa[iT,a]using h.s10
 case s11=>simpa[iT,a]using h.s11
theorem R3.U8 {w0:ag}{n:Nat}{L:Array Bool}{c d f g m i j k l:au}{w:ag}(h:R3 w0 n L c d f g m i j k l w)(o:L.getD 1 ae=ae)(hS:L.getD 9 ae=af->L.getD 1 ae=af):R3 w0 n (L.setIfInBounds 1 af) c d f g (.slice (ax ⟨w.heap.size,0,aj⟩) n n) i j k l (w.alloc (.cells (ah n (.int .i64 0)) 3)):=by
 have b:=h.size;constructor
 case below=>exact h.below.alloc h.below.size _
 case size=>simpa using b
 case m0=>simpa[iT,b]using h.m0
 case m2=>simpa[iT,b]using h.m2
 case m4=>simpa[iT,b]using h.m4
 case r1=>exact λ_=>oG.new w0 n w h.below.size
 case r3=>
  intro a;have a:L.getD 3 ae=af:=by simpa[iT,b]using a
  exact(h.r3 a).alloc _
 case r5=>
  intro a;have a:L.getD 5 ae=af:=by simpa[iT,b]using a
  exact(h.r5 a).alloc _
 case v6=>
  intro a;have a:L.getD 6 ae=af:=by simpa[iT,b]using a
  have hs:L.getD 9 ae=ae:=by
   cases p:L.getD 9 ae with
   |false=>rfl
   |true=>exact absurd (hS p) (by rw[o];simp)
  have hv:=(h.v6 a).alloc (.cells (ah n (.int .i64 0)) 3);simp only[iT,b,hs]at hv⊢;exact hv
 case v7=>
  intro a;have a:L.getD 7 ae=af:=by simpa[iT,b]using a
  have hv:=(h.v7 a).alloc (.cells (ah n (.int .i64 0)) 3);simp only[iT,b]at hv⊢;exact hv
 case v8=>
  intro a;have a:L.getD 8 ae=af:=by simpa[iT,b]using a
  have hv:=(h.v8 a).alloc (.cells (ah n (.int .i64 0)) 3);simp only[iT,b]at hv⊢;exact hv
 case d13=>intro _ a;exact λe=>(h.r3 (by simpa[iT,b]using a)).fresh e.symm
 case d15=>intro _ a;exact λe=>(h.r5 (by simpa[iT,b]using a)).fresh e.symm
 case d35=>simpa[iT,b]using h.d35
 case d67=>simpa[iT,b]using h.d67
 case d68=>simpa[iT,b]using h.d68
 case d78=>simpa[iT,b]using h.d78
 case s9=>simpa[iT,b]using h.s9
 case s10=>simpa[iT,b]using h.s10
 case s11=>simpa[iT,b]using h.s11
theorem R3.row3 {w0:ag}{n:Nat}{L:Array Bool}{c d f g i j m k l:au}{w:ag}(h:R3 w0 n L c d f g i j m k l w)(o:L.getD 3 ae=ae)(hS:L.getD 10 ae=af->L.getD 3 ae=af):R3 w0 n (L.setIfInBounds 3 af) c d f g i j (.slice (ax ⟨w.heap.size,0,aj⟩) n n) k l (w.alloc (.cells (ah n (.int .i64 0)) 3)):=by
 have b:=h.size;constructor
 case below=>exact h.below.alloc h.below.size _
 case size=>simpa using b
 case m0=>simpa[iT,b]using h.m0
 case m2=>simpa[iT,b]using h.m2
 case m4=>simpa[iT,b]using h.m4
 case r1=>
  intro a;have a:L.getD 1 ae=af:=by simpa[iT,b]using a
  exact(h.r1 a).alloc _
 case r3=>exact λ_=>oG.new w0 n w h.below.size
 case r5=>
  intro a;have a:L.getD 5 ae=af:=by simpa[iT,b]using a
  exact(h.r5 a).alloc _
 case v6=>
  intro a;have a:L.getD 6 ae=af:=by simpa[iT,b]using a
  have hv:=(h.v6 a).alloc (.cells (ah n (.int .i64 0)) 3);simp only[iT,b]at hv⊢;exact hv
 case v7=>
  intro a;have a:L.getD 7 ae=af:=by simpa[iT,b]using a
  have hs:L.getD 10 ae=ae:=by
   cases p:L.getD 10 ae with
   |false=>rfl
   |true=>exact absurd (hS p) (by rw[o];simp)
  have hv:=(h.v7 a).alloc (.cells (ah n (.int .i64 0)) 3);simp only[iT,b,hs]at hv⊢;exact hv
 case v8=>
  intro a;have a:L.getD 8 ae=af:=by simpa[iT,b]using a
  have hv:=(h.v8 a).alloc (.cells (ah n (.int .i64 0)) 3);simp only[iT,b]at hv⊢;exact hv
 case d13=>intro a _;exact(h.r1 (by simpa[iT,b]using a)).fresh
 case d15=>simpa[iT,b]using h.d15
 case d35=>intro _ a;exact λe=>(h.r5 (by simpa[iT,b]using a)).fresh e.symm
 case d67=>simpa[iT,b]using h.d67
 case d68=>simpa[iT,b]using h.d68
 case d78=>simpa[iT,b]using h.d78
 case s9=>simpa[iT,b]using h.s9
 case s10=>simpa[iT,b]using h.s10
 case s11=>simpa[iT,b]using h.s11
theorem R3.U9 {w0:ag}{n:Nat}{L:Array Bool}{c d e f g i j k l:au}{w:ag}(h:R3 w0 n L c d e f g i j k l w)(m:L.getD 5 ae=ae)(hS:L.getD 11 ae=af->L.getD 5 ae=af):R3 w0 n (L.setIfInBounds 5 af) c d e f g i j k (.slice (ax ⟨w.heap.size,0,aj⟩) n n) (w.alloc (.cells (ah n (.int .i64 0)) 3)):=by
 have b:=h.size;constructor
 case below=>exact h.below.alloc h.below.size _
 case size=>simpa using b
 case m0=>simpa[iT,b]using h.m0
 case m2=>simpa[iT,b]using h.m2
 case m4=>simpa[iT,b]using h.m4
 case r1=>
  intro a;have a:L.getD 1 ae=af:=by simpa[iT,b]using a
  exact(h.r1 a).alloc _
 case r3=>
  intro a;have a:L.getD 3 ae=af:=by simpa[iT,b]using a
  exact(h.r3 a).alloc _
 case r5=>exact λ_=>oG.new w0 n w h.below.size
 case v6=>
  intro a;have a:L.getD 6 ae=af:=by simpa[iT,b]using a
  have hv:=(h.v6 a).alloc (.cells (ah n (.int .i64 0)) 3);simp only[iT,b]at hv⊢;exact hv
 case v7=>
  intro a;have a:L.getD 7 ae=af:=by simpa[iT,b]using a
  have hv:=(h.v7 a).alloc (.cells (ah n (.int .i64 0)) 3);simp only[iT,b]at hv⊢;exact hv
 case v8=>
  intro a;have a:L.getD 8 ae=af:=by simpa[iT,b]using a
  have hs:L.getD 11 ae=ae:=by
   cases o:L.getD 11 ae with
   |false=>rfl
   |true=>exact absurd (hS o) (by rw[m];simp)
  have hv:=(h.v8 a).alloc (.cells (ah n (.int .i64 0)) 3);simp only[iT,b,hs]at hv⊢;exact hv
 case d13=>simpa[iT,b]using h.d13
 case d15=>intro a _;exact(h.r1 (by simpa[iT,b]using a)).fresh
 case d35=>intro a _;exact(h.r3 (by simpa[iT,b]using a)).fresh
 case d67=>simpa[iT,b]using h.d67
 case d68=>simpa[iT,b]using h.d68
 case d78=>simpa[iT,b]using h.d78
 case s9=>simpa[iT,b]using h.s9
 case s10=>simpa[iT,b]using h.s10
 case s11=>simpa[iT,b]using h.s11
theorem R3.Va {w0:ag}{n:Nat}{L:Array Bool}{m c d f g i j k l:au}{w:ag}(h:R3 w0 n L m c d f g i j k l w)(o:L.getD 6 ae=ae):R3 w0 n (L.setIfInBounds 6 af) (.pointer (ax ⟨w.heap.size,0,aj⟩)) c d f g i j k l (w.alloc (.cells #[.slice aj 0 0] 36)):=by
 have a:=h.size;constructor
 case below=>exact h.below.alloc h.below.size _
 case size=>simpa using a
 case m0=>simpa[iT,a]using h.m0
 case m2=>simpa[iT,a]using h.m2
 case m4=>simpa[iT,a]using h.m4
 case r1=>intro b;exact(h.r1 (by simpa[iT,a]using b)).alloc _
 case r3=>intro b;exact(h.r3 (by simpa[iT,a]using b)).alloc _
 case r5=>intro b;exact(h.r5 (by simpa[iT,a]using b)).alloc _
 case v6=>
  intro _
  have hs:L.getD 9 ae=ae:=by
   cases p:L.getD 9 ae with
   |false=>rfl
   |true=>exact absurd (h.s9 p) (by rw[o];simp)
  simp only[iT,a,hs];exact l9.new w0 w _ h.below.size
 case v7=>
  intro b;have b:L.getD 7 ae=af:=by simpa[iT,a]using b
  have hv:=(h.v7 b).alloc (.cells #[.slice aj 0 0] 36);simp only[iT,a]at hv⊢;exact hv
 case v8=>
  intro b;have b:L.getD 8 ae=af:=by simpa[iT,a]using b
  have hv:=(h.v8 b).alloc (.cells #[.slice aj 0 0] 36);simp only[iT,a]at hv⊢;exact hv
 case d13=>simpa[iT,a]using h.d13
 case d15=>simpa[iT,a]using h.d15
 case d35=>simpa[iT,a]using h.d35
 case d67=>intro _ b;exact λe=>(h.v7 (by simpa[iT,a]using b)).fresh e.symm
 case d68=>intro _ b;exact λe=>(h.v8 (by simpa[iT,a]using b)).fresh e.symm
 case d78=>simpa[iT,a]using h.d78
 case s9=>intro _;simp[a]
 case s10=>simpa[iT,a]using h.s10
 case s11=>simpa[iT,a]using h.s11
theorem R3.Vb {w0:ag}{n:Nat}{L:Array Bool}{c m d f g i j k l:au}{w:ag}(h:R3 w0 n L c m d f g i j k l w)(o:L.getD 7 ae=ae):R3 w0 n (L.setIfInBounds 7 af) c (.pointer (ax ⟨w.heap.size,0,aj⟩)) d f g i j k l (w.alloc (.cells #[.slice aj 0 0] 36)):=by
 have a:=h.size;constructor
 case below=>exact h.below.alloc h.below.size _
 case size=>simpa using a
 case m0=>simpa[iT,a]using h.m0
 case m2=>simpa[iT,a]using h.m2
 case m4=>simpa[iT,a]using h.m4
 case r1=>intro b;exact(h.r1 (by simpa[iT,a]using b)).alloc _
 case r3=>intro b;exact(h.r3 (by simpa[iT,a]using b)).alloc _
 case r5=>intro b;exact(h.r5 (by simpa[iT,a]using b)).alloc _
 case v6=>
  intro b;have b:L.getD 6 ae=af:=by simpa[iT,a]using b
  have hv:=(h.v6 b).alloc (.cells #[.slice aj 0 0] 36);simp only[iT,a]at hv⊢;exact hv
 case v7=>
  intro _
  have hs:L.getD 10 ae=ae:=by
   cases p:L.getD 10 ae with
   |false=>rfl
   |true=>exact absurd (h.s10 p) (by rw[o];simp)
  simp only[iT,a,hs];exact l9.new w0 w _ h.below.size
 case v8=>
  intro b;have b:L.getD 8 ae=af:=by simpa[iT,a]using b
  have hv:=(h.v8 b).alloc (.cells #[.slice aj 0 0] 36);simp only[iT,a]at hv⊢;exact hv
 case d13=>simpa[iT,a]using h.d13
 case d15=>simpa[iT,a]using h.d15
 case d35=>simpa[iT,a]using h.d35
 case d67=>intro b _;exact(h.v6 (by simpa[iT,a]using b)).fresh
 case d68=>simpa[iT,a]using h.d68
 case d78=>intro _ b;exact λe=>(h.v8 (by simpa[iT,a]using b)).fresh e.symm
 case s9=>simpa[iT,a]using h.s9
 case s10=>intro _;simp[a]
 case s11=>simpa[iT,a]using h.s11
theorem R3.Vd {w0:ag}{n:Nat}{L:Array Bool}{c d l e f g i j k:au}{w:ag}(h:R3 w0 n L c d l e f g i j k w)(m:L.getD 8 ae=ae):R3 w0 n (L.setIfInBounds 8 af) c d (.pointer (ax ⟨w.heap.size,0,aj⟩)) e f g i j k (w.alloc (.cells #[.slice aj 0 0] 36)):=by
 have a:=h.size;constructor
 case below=>exact h.below.alloc h.below.size _
 case size=>simpa using a
 case m0=>simpa[iT,a]using h.m0
 case m2=>simpa[iT,a]using h.m2
 case m4=>simpa[iT,a]using h.m4
 case r1=>intro b;exact(h.r1 (by simpa[iT,a]using b)).alloc _
 case r3=>intro b;exact(h.r3 (by simpa[iT,a]using b)).alloc _
 case r5=>intro b;exact(h.r5 (by simpa[iT,a]using b)).alloc _
 case v6=>
  intro b;have b:L.getD 6 ae=af:=by simpa[iT,a]using b
  have hv:=(h.v6 b).alloc (.cells #[.slice aj 0 0] 36);simp only[iT,a]at hv⊢;exact hv
 case v7=>
  intro b;have b:L.getD 7 ae=af:=by simpa[iT,a]using b
  have hv:=(h.v7 b).alloc (.cells #[.slice aj 0 0] 36);simp only[iT,a]at hv⊢;exact hv
 case v8=>
  intro _
  have hs:L.getD 11 ae=ae:=by
   cases o:L.getD 11 ae with
   |false=>rfl
   |true=>exact absurd (h.s11 o) (by rw[m];simp)
  simp only[iT,a,hs];exact l9.new w0 w _ h.below.size
 case d13=>simpa[iT,a]using h.d13
 case d15=>simpa[iT,a]using h.d15
 case d35=>simpa[iT,a]using h.d35
 case d67=>simpa[iT,a]using h.d67
 case d68=>intro b _;exact(h.v6 (by simpa[iT,a]using b)).fresh
 case d78=>intro b _;exact(h.v7 (by simpa[iT,a]using b)).fresh
 case s9=>simpa[iT,a]using h.s9
 case s10=>simpa[iT,a]using h.s10
 case s11=>intro _;simp[a]
theorem R3.Ve {w0:ag}{n:Nat}{L:Array Bool}{b:Nat}{c:au}{j k l f m o q r:au}{w:ag}(h:R3 w0 n L (.pointer (ax ⟨b,0,aj⟩)) j k l f m o q r w)(i:L.getD 6 ae=af)(s:w0.heap.size<=b)(g:w.heap[b]?=ax (.cells #[c] 36)):R3 w0 n (L.setIfInBounds 9 af) (.pointer (ax ⟨b,0,aj⟩)) j k l f m o q r (w.setCell ⟨b,0,aj⟩ f):=by
 have a:=h.size;constructor
 case below=>exact h.below.setCell (p:=⟨b,0,aj⟩) s _
 case size=>simpa using a
 case m0=>simpa[iT,a]using h.m0
 case m2=>simpa[iT,a]using h.m2
 case m4=>simpa[iT,a]using h.m4
 case r1=>intro d;exact(h.r1 (by simpa[iT,a]using d)).set g _
 case r3=>intro d;exact(h.r3 (by simpa[iT,a]using d)).set g _
 case r5=>intro d;exact(h.r5 (by simpa[iT,a]using d)).set g _
 case v6=>intro _;have hv:=l9.put (w0:=w0) (w:=w) s g f;simpa[iT,a]using hv
 case v7=>
  intro d;have d:L.getD 7 ae=af:=by simpa[iT,a]using d
  have hv:=(h.v7 d).set (b:=b) (λe=>h.d67 i d e.symm) f;simp only[iT,a]at hv⊢;exact hv
 case v8=>
  intro d;have d:L.getD 8 ae=af:=by simpa[iT,a]using d
  have hv:=(h.v8 d).set (b:=b) (λe=>h.d68 i d e.symm) f;simp only[iT,a]at hv⊢;exact hv
 case d13=>simpa[iT,a]using h.d13
 case d15=>simpa[iT,a]using h.d15
 case d35=>simpa[iT,a]using h.d35
 case d67=>simpa[iT,a]using h.d67
 case d68=>simpa[iT,a]using h.d68
 case d78=>simpa[iT,a]using h.d78
 case s9=>intro _;simpa[iT,a]using i
 case s10=>simpa[iT,a]using h.s10
 case s11=>simpa[iT,a]using h.s11
theorem R3.Vf {w0:ag}{n:Nat}{L:Array Bool}{b:Nat}{c:au}{j k l m o f q r:au}{w:ag}(h:R3 w0 n L j (.pointer (ax ⟨b,0,aj⟩)) k l m o f q r w)(i:L.getD 7 ae=af)(s:w0.heap.size<=b)(g:w.heap[b]?=ax (.cells #[c] 36)):R3 w0 n (L.setIfInBounds 10 af) j (.pointer (ax ⟨b,0,aj⟩)) k l m o f q r (w.setCell ⟨b,0,aj⟩ f):=by
 have a:=h.size;constructor
 case below=>exact h.below.setCell (p:=⟨b,0,aj⟩) s _
 case size=>simpa using a
 case m0=>simpa[iT,a]using h.m0
 case m2=>simpa[iT,a]using h.m2
 case m4=>simpa[iT,a]using h.m4
 case r1=>intro d;exact(h.r1 (by simpa[iT,a]using d)).set g _
 case r3=>intro d;exact(h.r3 (by simpa[iT,a]using d)).set g _
 case r5=>intro d;exact(h.r5 (by simpa[iT,a]using d)).set g _
 case v6=>
  intro d;have d:L.getD 6 ae=af:=by simpa[iT,a]using d
  have hv:=(h.v6 d).set (b:=b) ((h.d67 d i)) f;simp only[iT,a]at hv⊢;exact hv
 case v7=>intro _;have hv:=l9.put (w0:=w0) (w:=w) s g f;simpa[iT,a]using hv
 case v8=>
  intro d;have d:L.getD 8 ae=af:=by simpa[iT,a]using d
  have hv:=(h.v8 d).set (b:=b) (λe=>h.d78 i d e.symm) f;simp only[iT,a]at hv⊢;exact hv
 case d13=>simpa[iT,a]using h.d13
 case d15=>simpa[iT,a]using h.d15
 case d35=>simpa[iT,a]using h.d35
 case d67=>simpa[iT,a]using h.d67
 case d68=>simpa[iT,a]using h.d68
 case d78=>simpa[iT,a]using h.d78
 case s9=>simpa[iT,a]using h.s9
 case s10=>intro _;simpa[iT,a]using i
 case s11=>simpa[iT,a]using h.s11
theorem R3.oQ {w0:ag}{n:Nat}{L:Array Bool}{b:Nat}{c:au}{i j k l m o q e:au}{w:ag}(h:R3 w0 n L i j (.pointer (ax ⟨b,0,aj⟩)) k l m o q e w)(g:L.getD 8 ae=af)(r:w0.heap.size<=b)(f:w.heap[b]?=ax (.cells #[c] 36)):R3 w0 n (L.setIfInBounds 11 af) i j (.pointer (ax ⟨b,0,aj⟩)) k l m o q e (w.setCell ⟨b,0,aj⟩ e):=by
 have a:=h.size;constructor
 case below=>exact h.below.setCell (p:=⟨b,0,aj⟩) r _
 case size=>simpa using a
 case m0=>simpa[iT,a]using h.m0
 case m2=>simpa[iT,a]using h.m2
 case m4=>simpa[iT,a]using h.m4
 case r1=>intro d;exact(h.r1 (by simpa[iT,a]using d)).set f _
 case r3=>intro d;exact(h.r3 (by simpa[iT,a]using d)).set f _
 case r5=>intro d;exact(h.r5 (by simpa[iT,a]using d)).set f _
 case v6=>
  intro d;have d:L.getD 6 ae=af:=by simpa[iT,a]using d
  have hv:=(h.v6 d).set (b:=b) ((h.d68 d g)) e;simp only[iT,a]at hv⊢;exact hv
 case v7=>
  intro d;have d:L.getD 7 ae=af:=by simpa[iT,a]using d
  have hv:=(h.v7 d).set (b:=b) ((h.d78 d g)) e;simp only[iT,a]at hv⊢;exact hv
 case v8=>intro _;have hv:=l9.put (w0:=w0) (w:=w) r f e;simpa[iT,a]using hv
 case d13=>simpa[iT,a]using h.d13
 case d15=>simpa[iT,a]using h.d15
 case d35=>simpa[iT,a]using h.d35
 case d67=>simpa[iT,a]using h.d67
 case d68=>simpa[iT,a]using h.d68
 case d78=>simpa[iT,a]using h.d78
 case s9=>simpa[iT,a]using h.s9
 case s10=>simpa[iT,a]using h.s10
 case s11=>intro _;simpa[iT,a]using g
end Go.Proofs.YthcalnnipjflkaaGreatDoor
