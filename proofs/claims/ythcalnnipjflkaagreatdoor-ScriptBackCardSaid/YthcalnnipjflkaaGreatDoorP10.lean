import Derived.Test.YthcalnnipjflkaaGreatDoorP00
import Derived.Test.YthcalnnipjflkaaGreatDoorP05
import Derived.Lib.ItoaNum
open Bool renaming false -> ae, true -> af
open Go renaming World -> ag, Value -> au, heap_alloc_new -> aA, wpQuiet_nil -> aJ
open Option renaming none -> ah, some -> ax
open Array renaming replicate -> aj, getElem?_eq_some_iff -> aC
open PLift renaming up -> ay
open Go.Lib renaming cell_of_heap -> az, itoa -> aH, alloc_old -> aI
open Go.RowKit renaming Below -> aB
set_option linter.all false
set_option maxHeartbeats 4000000
set_option maxRecDepth 100000
namespace Go.Proofs.YthcalnnipjflkaaGreatDoor
open Go.RowKit
open Go.Lib hiding intOf
def oG (w0:ag)(n:Nat)(w:ag)(v:au):Prop:=∃b,v=.slice (ax ⟨b,0,ah⟩) n n/\w0.heap.size<=b/\w.heap[b]?=ax (.cells (aj n (.int .i64 0)) 3)
def l9 (w0:ag)(w:ag)(v c:au):Prop:=∃b,v=.pointer (ax ⟨b,0,ah⟩)/\w0.heap.size<=b/\w.heap[b]?=ax (.cells #[c] 36)
theorem block_lt {w:ag}{b:Nat}{o:Obj}(h:w.heap[b]?=ax o):b<w.heap.size:=(aC.1 h).1
theorem oG.alloc {w0:ag}{n:Nat}{w:ag}{v:au}(h:oG w0 n w v)(o:Obj):oG w0 n (w.alloc o) v:=by obtain⟨b,c,d,a⟩:=h;exact⟨b,c,d,by rw[aI _ _ _ (block_lt a)];exact a⟩
theorem l9.alloc {w0:ag}{w:ag}{v c:au}(h:l9 w0 w v c)(o:Obj):l9 w0 (w.alloc o) v c:=by obtain⟨b,d,e,a⟩:=h;exact⟨b,d,e,by rw[aI _ _ _ (block_lt a)];exact a⟩
theorem oG.new (w0:ag)(n:Nat)(w:ag)(h:w0.heap.size<=w.heap.size):oG w0 n (w.alloc (.cells (aj n (.int .i64 0)) 3)) (.slice (ax ⟨w.heap.size,0,ah⟩) n n):=⟨_,rfl,h,aA w _⟩
theorem l9.new (w0:ag)(w:ag)(c:au)(h:w0.heap.size<=w.heap.size):l9 w0 (w.alloc (.cells #[c] 36)) (.pointer (ax ⟨w.heap.size,0,ah⟩)) c:=⟨_,rfl,h,aA w _⟩
theorem oG.fresh {w0:ag}{n:Nat}{w:ag}{v:au}(h:oG w0 n w v):v≠.slice (ax ⟨w.heap.size,0,ah⟩) n n:=by obtain⟨b,rfl,c,a⟩:=h;intro e;have d:=block_lt a;simp only[Value.slice.injEq,Option.some.injEq,Addr.mk.injEq]at e;omega
theorem l9.fresh {w0:ag}{w:ag}{v c:au}(h:l9 w0 w v c):v≠.pointer (ax ⟨w.heap.size,0,ah⟩):=by obtain⟨b,rfl,d,a⟩:=h;intro e;have f:=block_lt a;simp only[Value.pointer.injEq,Option.some.injEq,Addr.mk.injEq]at e;omega
theorem oG.set {w0:ag}{n:Nat}{w:ag}{v:au}(h:oG w0 n w v){b:Nat}{c:au}(e:w.heap[b]?=ax (.cells #[c] 36))(x:au):oG w0 n (w.setCell ⟨b,0,ah⟩ x) v:=by
 obtain⟨d,f,g,a⟩:=h;refine⟨d,f,g,?_⟩;rw[jm]
 ·exact a
 ·rintro rfl
  rw[e]at a;simp at a
theorem l9.set {w0:ag}{w:ag}{v c:au}(h:l9 w0 w v c){b:Nat}(a:v≠.pointer (ax ⟨b,0,ah⟩))(x:au):l9 w0 (w.setCell ⟨b,0,ah⟩ x) v c:=by
 obtain⟨d,rfl,e,f⟩:=h;refine⟨d,rfl,e,?_⟩;rw[jm]
 ·exact f
 ·rintro rfl;exact a rfl
theorem l9.put {w0:ag}{w:ag}{b:Nat}{c:au}(a:w0.heap.size<=b)(d:w.heap[b]?=ax (.cells #[c] 36))(x:au):l9 w0 (w.setCell ⟨b,0,ah⟩ x) (.pointer (ax ⟨b,0,ah⟩)) x:=by refine⟨b,rfl,a,?_⟩;simp[World.setCell,Array.getElem?_modify,d]
theorem iT (L:Array Bool)(i j:Nat):(L.setIfInBounds i af).getD j ae=if i=j then(L.getD j ae||decide (i<L.size))else L.getD j ae:=by
 simp only[Array.getD_eq_getD_getElem?,Array.getElem?_setIfInBounds];split
 ·rename_i h;subst h
  by_cases h:i<L.size
  ·simp[h]
  ·simp[h]
 ·rfl
structure R3 (w0:ag)(n:Nat)(L:Array Bool)(x5 x6 x7 x17 x18 x19 x20 x21 jk:au)(w:ag):Prop where
 below:aB w0.heap.size w0 w
 size:L.size=12
 m0:L.getD 0 ae=af->x17=.int .i64 n
 m2:L.getD 2 ae=af->x19=.int .i64 n
 m4:L.getD 4 ae=af->x21=.int .i64 n
 r1:L.getD 1 ae=af->oG w0 n w x18
 r3:L.getD 3 ae=af->oG w0 n w x20
 r5:L.getD 5 ae=af->oG w0 n w jk
 v6:L.getD 6 ae=af->l9 w0 w x5 (if L.getD 9 ae then x18 else .slice ah 0 0)
 v7:L.getD 7 ae=af->l9 w0 w x6 (if L.getD 10 ae then x20 else .slice ah 0 0)
 v8:L.getD 8 ae=af->l9 w0 w x7 (if L.getD 11 ae then jk else .slice ah 0 0)
 d13:L.getD 1 ae=af->L.getD 3 ae=af->x18≠x20
 d15:L.getD 1 ae=af->L.getD 5 ae=af->x18≠jk
 d35:L.getD 3 ae=af->L.getD 5 ae=af->x20≠jk
 d67:L.getD 6 ae=af->L.getD 7 ae=af->x5≠x6
 d68:L.getD 6 ae=af->L.getD 8 ae=af->x5≠x7
 d78:L.getD 7 ae=af->L.getD 8 ae=af->x6≠x7
 s9:L.getD 9 ae=af->L.getD 6 ae=af
 s10:L.getD 10 ae=af->L.getD 7 ae=af
 s11:L.getD 11 ae=af->L.getD 8 ae=af
theorem R3.move0 {w0:ag}{n:Nat}{L:Array Bool}{b c d k e f g i j:au}{w:ag}(h:R3 w0 n L b c d k e f g i j w):R3 w0 n (L.setIfInBounds 0 af) b c d (.int .i64 n) e f g i j w:=by
 have a:=h.size;constructor
 case below=>exact h.below
 case size=>simpa using a
 case m0=>exact λ_=>rfl
 case m2=>simpa[iT,a]using h.m2
 case m4=>simpa[iT,a]using h.m4
 case r1=>simpa[iT,a]using h.r1
 case r3=>simpa[iT,a]using h.r3
 case r5=>simpa[iT,a]using h.r5
 case v6=>simpa[iT,a]using h.v6
 case v7=>simpa[iT,a]using h.v7
 case v8=>simpa[iT,a]using h.v8
 case d13=>simpa[iT,a]using h.d13
 case d15=>simpa[iT,a]using h.d15
 case d35=>simpa[iT,a]using h.d35
 case d67=>simpa[iT,a]using h.d67
 case d68=>simpa[iT,a]using h.d68
 case d78=>simpa[iT,a]using h.d78
 case s9=>simpa[iT,a]using h.s9
 case s10=>simpa[iT,a]using h.s10
 case s11=>simpa[iT,a]using h.s11
theorem R3.U3 {w0:ag}{n:Nat}{L:Array Bool}{b c d e f k g i j:au}{w:ag}(h:R3 w0 n L b c d e f k g i j w):R3 w0 n (L.setIfInBounds 2 af) b c d e f (.int .i64 n) g i j w:=by
 have a:=h.size;constructor
 case below=>exact h.below
 case size=>simpa using a
 case m0=>simpa[iT,a]using h.m0
 case m2=>exact λ_=>rfl
 case m4=>simpa[iT,a]using h.m4
 case r1=>simpa[iT,a]using h.r1
 case r3=>simpa[iT,a]using h.r3
 case r5=>simpa[iT,a]using h.r5
 case v6=>simpa[iT,a]using h.v6
 case v7=>simpa[iT,a]using h.v7
 case v8=>simpa[iT,a]using h.v8
 case d13=>simpa[iT,a]using h.d13
 case d15=>simpa[iT,a]using h.d15
 case d35=>simpa[iT,a]using h.d35
 case d67=>simpa[iT,a]using h.d67
 case d68=>simpa[iT,a]using h.d68
 case d78=>simpa[iT,a]using h.d78
 case s9=>simpa[iT,a]using h.s9
 case s10=>simpa[iT,a]using h.s10
 case s11=>simpa[iT,a]using h.s11
theorem R3.U7 {w0:ag}{n:Nat}{L:Array Bool}{b c d e f g i k j:au}{w:ag}(h:R3 w0 n L b c d e f g i k j w):R3 w0 n (L.setIfInBounds 4 af) b c d e f g i (.int .i64 n) j w:=by
 have a:=h.size;constructor
 case below=>exact h.below
 case size=>simpa using a
 case m0=>simpa[iT,a]using h.m0
 case m2=>simpa[iT,a]using h.m2
 case m4=>exact λ_=>rfl
 case r1=>simpa[iT,a]using h.r1
 case r3=>simpa[iT,a]using h.r3
 case r5=>simpa[iT,a]using h.r5
 case v6=>simpa[iT,a]using h.v6
 case v7=>simpa[iT,a]using h.v7
 case v8=>simpa[iT,a]using h.v8
 case d13=>simpa[iT,a]using h.d13
 case d15=>simpa[iT,a]using h.d15
 case d35=>simpa[iT,a]using h.d35
 case d67=>simpa[iT,a]using h.d67
 case d68=>simpa[iT,a]using h.d68
 case d78=>simpa[iT,a]using h.d78
 case s9=>simpa[iT,a]using h.s9
 case s10=>simpa[iT,a]using h.s10
 case s11=>simpa[iT,a]using h.s11
theorem R3.U8 {w0:ag}{n:Nat}{L:Array Bool}{c d f g m i j k l:au}{w:ag}(h:R3 w0 n L c d f g m i j k l w)(o:L.getD 1 ae=ae)(hS:L.getD 9 ae=af->L.getD 1 ae=af):R3 w0 n (L.setIfInBounds 1 af) c d f g (.slice (ax ⟨w.heap.size,0,ah⟩) n n) i j k l (w.alloc (.cells (aj n (.int .i64 0)) 3)):=by
 have b:=h.size;constructor
 case below=>exact h.below.alloc h.below.size _
 case size=>simpa using b
 case m0=>simpa[iT,b]using h.m0
 case m2=>simpa[iT,b]using h.m2
 case m4=>simpa[iT,b]using h.m4
 case r1=>exact λ_=>oG.new w0 n w h.below.size
 case r3=>
  intro a;have a:L.getD 3 ae=af:=by simpa[iT,b]using a
  exact(h.r3 a).alloc _
 case r5=>
  intro a;have a:L.getD 5 ae=af:=by simpa[iT,b]using a
  exact(h.r5 a).alloc _
 case v6=>
  intro a;have a:L.getD 6 ae=af:=by simpa[iT,b]using a
  have hs:L.getD 9 ae=ae:=by
   cases p:L.getD 9 ae with
   |false=>rfl
   |true=>exact absurd (hS p) (by rw[o];simp)
  have hv:=(h.v6 a).alloc (.cells (aj n (.int .i64 0)) 3);simp only[iT,b,hs]at hv⊢;exact hv
 case v7=>
  intro a;have a:L.getD 7 ae=af:=by simpa[iT,b]using a
  have hv:=(h.v7 a).alloc (.cells (aj n (.int .i64 0)) 3);simp only[iT,b]at hv⊢;exact hv
 case v8=>
  intro a;have a:L.getD 8 ae=af:=by simpa[iT,b]using a
  have hv:=(h.v8 a).alloc (.cells (aj n (.int .i64 0)) 3);simp only[iT,b]at hv⊢;exact hv
 case d13=>intro _ a;exact λe=>(h.r3 (by simpa[iT,b]using a)).fresh e.symm
 case d15=>intro _ a;exact λe=>(h.r5 (by simpa[iT,b]using a)).fresh e.symm
 case d35=>simpa[iT,b]using h.d35
 case d67=>simpa[iT,b]using h.d67
 case d68=>simpa[iT,b]using h.d68
 case d78=>simpa[iT,b]using h.d78
 case s9=>simpa[iT,b]using h.s9
 case s10=>simpa[iT,b]using h.s10
 case s11=>simpa[iT,b]using h.s11
theorem R3.row3 {w0:ag}{n:Nat}{L:Array Bool}{c d f g i j m k l:au}{w:ag}(h:R3 w0 n L c d f g i j m k l w)(o:L.getD 3 ae=ae)(hS:L.getD 10 ae=af->L.getD 3 ae=af):R3 w0 n (L.setIfInBounds 3 af) c d f g i j (.slice (ax ⟨w.heap.size,0,ah⟩) n n) k l (w.alloc (.cells (aj n (.int .i64 0)) 3)):=by
 have b:=h.size;constructor
 case below=>exact h.below.alloc h.below.size _
 case size=>simpa using b
 case m0=>simpa[iT,b]using h.m0
 case m2=>simpa[iT,b]using h.m2
 case m4=>simpa[iT,b]using h.m4
 case r1=>
  intro a;have a:L.getD 1 ae=af:=by simpa[iT,b]using a
  exact(h.r1 a).alloc _
 case r3=>exact λ_=>oG.new w0 n w h.below.size
 case r5=>
  intro a;have a:L.getD 5 ae=af:=by simpa[iT,b]using a
  exact(h.r5 a).alloc _
 case v6=>
  intro a;have a:L.getD 6 ae=af:=by simpa[iT,b]using a
  have hv:=(h.v6 a).alloc (.cells (aj n (.int .i64 0)) 3);simp only[iT,b]at hv⊢;exact hv
 case v7=>
  intro a;have a:L.getD 7 ae=af:=by simpa[iT,b]using a
  have hs:L.getD 10 ae=ae:=by
   cases p:L.getD 10 ae with
   |false=>rfl
   |true=>exact absurd (hS p) (by rw[o];simp)
  have hv:=(h.v7 a).alloc (.cells (aj n (.int .i64 0)) 3);simp only[iT,b,hs]at hv⊢;exact hv
 case v8=>
  intro a;have a:L.getD 8 ae=af:=by simpa[iT,b]using a
  have hv:=(h.v8 a).alloc (.cells (aj n (.int .i64 0)) 3);simp only[iT,b]at hv⊢;exact hv
 case d13=>intro a _;exact(h.r1 (by simpa[iT,b]using a)).fresh
 case d15=>simpa[iT,b]using h.d15
 case d35=>intro _ a;exact λe=>(h.r5 (by simpa[iT,b]using a)).fresh e.symm
 case d67=>simpa[iT,b]using h.d67
 case d68=>simpa[iT,b]using h.d68
 case d78=>simpa[iT,b]using h.d78
 case s9=>simpa[iT,b]using h.s9
 case s10=>simpa[iT,b]using h.s10
 case s11=>simpa[iT,b]using h.s11
theorem R3.U9 {w0:ag}{n:Nat}{L:Array Bool}{c d e f g i j k l:au}{w:ag}(h:R3 w0 n L c d e f g i j k l w)(m:L.getD 5 ae=ae)(hS:L.getD 11 ae=af->L.getD 5 ae=af):R3 w0 n (L.setIfInBounds 5 af) c d e f g i j k (.slice (ax ⟨w.heap.size,0,ah⟩) n n) (w.alloc (.cells (aj n (.int .i64 0)) 3)):=by
 have b:=h.size;constructor
 case below=>exact h.below.alloc h.below.size _
 case size=>simpa using b
 case m0=>simpa[iT,b]using h.m0
 case m2=>simpa[iT,b]using h.m2
 case m4=>simpa[iT,b]using h.m4
 case r1=>
  intro a;have a:L.getD 1 ae=af:=by simpa[iT,b]using a
  exact(h.r1 a).alloc _
 case r3=>
  intro a;have a:L.getD 3 ae=af:=by simpa[iT,b]using a
  exact(h.r3 a).alloc _
 case r5=>exact λ_=>oG.new w0 n w h.below.size
 case v6=>
  intro a;have a:L.getD 6 ae=af:=by simpa[iT,b]using a
  have hv:=(h.v6 a).alloc (.cells (aj n (.int .i64 0)) 3);simp only[iT,b]at hv⊢;exact hv
 case v7=>
  intro a;have a:L.getD 7 ae=af:=by simpa[iT,b]using a
  have hv:=(h.v7 a).alloc (.cells (aj n (.int .i64 0)) 3);simp only[iT,b]at hv⊢;exact hv
 case v8=>
  intro a;have a:L.getD 8 ae=af:=by simpa[iT,b]using a
  have hs:L.getD 11 ae=ae:=by
   cases o:L.getD 11 ae with
   |false=>rfl
   |true=>exact absurd (hS o) (by rw[m];simp)
  have hv:=(h.v8 a).alloc (.cells (aj n (.int .i64 0)) 3);simp only[iT,b,hs]at hv⊢;exact hv
 case d13=>simpa[iT,b]using h.d13
 case d15=>intro a _;exact(h.r1 (by simpa[iT,b]using a)).fresh
 case d35=>intro a _;exact(h.r3 (by simpa[iT,b]using a)).fresh
 case d67=>simpa[iT,b]using h.d67
 case d68=>simpa[iT,b]using h.d68
 case d78=>simpa[iT,b]using h.d78
 case s9=>simpa[iT,b]using h.s9
 case s10=>simpa[iT,b]using h.s10
 case s11=>simpa[iT,b]using h.s11
theorem R3.Va {w0:ag}{n:Nat}{L:Array Bool}{m c d f g i j k l:au}{w:ag}(h:R3 w0 n L m c d f g i j k l w)(o:L.getD 6 ae=ae):R3 w0 n (L.setIfInBounds 6 af) (.pointer (ax ⟨w.heap.size,0,ah⟩)) c d f g i j k l (w.alloc (.cells #[.slice ah 0 0] 36)):=by
 have a:=h.size;constructor
 case below=>exact h.below.alloc h.below.size _
 case size=>simpa using a
 case m0=>simpa[iT,a]using h.m0
 case m2=>simpa[iT,a]using h.m2
 case m4=>simpa[iT,a]using h.m4
 case r1=>intro b;exact(h.r1 (by simpa[iT,a]using b)).alloc _
 case r3=>intro b;exact(h.r3 (by simpa[iT,a]using b)).alloc _
 case r5=>intro b;exact(h.r5 (by simpa[iT,a]using b)).alloc _
 case v6=>
  intro _
  have hs:L.getD 9 ae=ae:=by
   cases p:L.getD 9 ae with
   |false=>rfl
   |true=>exact absurd (h.s9 p) (by rw[o];simp)
  simp only[iT,a,hs];exact l9.new w0 w _ h.below.size
 case v7=>
  intro b;have b:L.getD 7 ae=af:=by simpa[iT,a]using b
  have hv:=(h.v7 b).alloc (.cells #[.slice ah 0 0] 36);simp only[iT,a]at hv⊢;exact hv
 case v8=>
  intro b;have b:L.getD 8 ae=af:=by simpa[iT,a]using b
  have hv:=(h.v8 b).alloc (.cells #[.slice ah 0 0] 36);simp only[iT,a]at hv⊢;exact hv
 case d13=>simpa[iT,a]using h.d13
 case d15=>simpa[iT,a]using h.d15
 case d35=>simpa[iT,a]using h.d35
 case d67=>intro _ b;exact λe=>(h.v7 (by simpa[iT,a]using b)).fresh e.symm
 case d68=>intro _ b;exact λe=>(h.v8 (by simpa[iT,a]using b)).fresh e.symm
 case d78=>simpa[iT,a]using h.d78
 case s9=>intro _;simp[a]
 case s10=>simpa[iT,a]using h.s10
 case s11=>simpa[iT,a]using h.s11
theorem R3.Vb {w0:ag}{n:Nat}{L:Array Bool}{c m d f g i j k l:au}{w:ag}(h:R3 w0 n L c m d f g i j k l w)(o:L.getD 7 ae=ae):R3 w0 n (L.setIfInBounds 7 af) c (.pointer (ax ⟨w.heap.size,0,ah⟩)) d f g i j k l (w.alloc (.cells #[.slice ah 0 0] 36)):=by
 have a:=h.size;constructor
 case below=>exact h.below.alloc h.below.size _
 case size=>simpa using a
 case m0=>simpa[iT,a]using h.m0
 case m2=>simpa[iT,a]using h.m2
 case m4=>simpa[iT,a]using h.m4
 case r1=>intro b;exact(h.r1 (by simpa[iT,a]using b)).alloc _
 case r3=>intro b;exact(h.r3 (by simpa[iT,a]using b)).alloc _
 case r5=>intro b;exact(h.r5 (by simpa[iT,a]using b)).alloc _
 case v6=>
  intro b;have b:L.getD 6 ae=af:=by simpa[iT,a]using b
  have hv:=(h.v6 b).alloc (.cells #[.slice ah 0 0] 36);simp only[iT,a]at hv⊢;exact hv
 case v7=>
  intro _
  have hs:L.getD 10 ae=ae:=by
   cases p:L.getD 10 ae with
   |false=>rfl
   |true=>exact absurd (h.s10 p) (by rw[o];simp)
  simp only[iT,a,hs];exact l9.new w0 w _ h.below.size
 case v8=>
  intro b;have b:L.getD 8 ae=af:=by simpa[iT,a]using b
  have hv:=(h.v8 b).alloc (.cells #[.slice ah 0 0] 36);simp only[iT,a]at hv⊢;exact hv
 case d13=>simpa[iT,a]using h.d13
 case d15=>simpa[iT,a]using h.d15
 case d35=>simpa[iT,a]using h.d35
 case d67=>intro b _;exact(h.v6 (by simpa[iT,a]using b)).fresh
 case d68=>simpa[iT,a]using h.d68
 case d78=>intro _ b;exact λe=>(h.v8 (by simpa[iT,a]using b)).fresh e.symm
 case s9=>simpa[iT,a]using h.s9
 case s10=>intro _;simp[a]
 case s11=>simpa[iT,a]using h.s11
theorem R3.Vd {w0:ag}{n:Nat}{L:Array Bool}{c d l e f g i j k:au}{w:ag}(h:R3 w0 n L c d l e f g i j k w)(m:L.getD 8 ae=ae):R3 w0 n (L.setIfInBounds 8 af) c d (.pointer (ax ⟨w.heap.size,0,ah⟩)) e f g i j k (w.alloc (.cells #[.slice ah 0 0] 36)):=by
 have a:=h.size;constructor
 case below=>exact h.below.alloc h.below.size _
 case size=>simpa using a
 case m0=>simpa[iT,a]using h.m0
 case m2=>simpa[iT,a]using h.m2
 case m4=>simpa[iT,a]using h.m4
 case r1=>intro b;exact(h.r1 (by simpa[iT,a]using b)).alloc _
 case r3=>intro b;exact(h.r3 (by simpa[iT,a]using b)).alloc _
 case r5=>intro b;exact(h.r5 (by simpa[iT,a]using b)).alloc _
 case v6=>
  intro b;have b:L.getD 6 ae=af:=by simpa[iT,a]using b
  have hv:=(h.v6 b).alloc (.cells #[.slice ah 0 0] 36);simp only[iT,a]at hv⊢;exact hv
 case v7=>
  intro b;have b:L.getD 7 ae=af:=by simpa[iT,a]using b
  have hv:=(h.v7 b).alloc (.cells #[.slice ah 0 0] 36);simp only[iT,a]at hv⊢;exact hv
 case v8=>
  intro _
  have hs:L.getD 11 ae=ae:=by
   cases o:L.getD 11 ae with
   |false=>rfl
   |true=>exact absurd (h.s11 o) (by rw[m];simp)
  simp only[iT,a,hs];exact l9.new w0 w _ h.below.size
 case d13=>simpa[iT,a]using h.d13
 case d15=>simpa[iT,a]using h.d15
 case d35=>simpa[iT,a]using h.d35
 case d67=>simpa[iT,a]using h.d67
 case d68=>intro b _;exact(h.v6 (by simpa[iT,a]using b)).fresh
 case d78=>intro b _;exact(h.v7 (by simpa[iT,a]using b)).fresh
 case s9=>simpa[iT,a]using h.s9
 case s10=>simpa[iT,a]using h.s10
 case s11=>intro _;simp[a]
theorem R3.Ve {w0:ag}{n:Nat}{L:Array Bool}{b:Nat}{c:au}{j k l f m o q r:au}{w:ag}(h:R3 w0 n L (.pointer (ax ⟨b,0,ah⟩)) j k l f m o q r w)(i:L.getD 6 ae=af)(s:w0.heap.size<=b)(g:w.heap[b]?=ax (.cells #[c] 36)):R3 w0 n (L.setIfInBounds 9 af) (.pointer (ax ⟨b,0,ah⟩)) j k l f m o q r (w.setCell ⟨b,0,ah⟩ f):=by
 have a:=h.size;constructor
 case below=>exact h.below.setCell (p:=⟨b,0,ah⟩) s _
 case size=>simpa using a
 case m0=>simpa[iT,a]using h.m0
 case m2=>simpa[iT,a]using h.m2
 case m4=>simpa[iT,a]using h.m4
 case r1=>intro d;exact(h.r1 (by simpa[iT,a]using d)).set g _
 case r3=>intro d;exact(h.r3 (by simpa[iT,a]using d)).set g _
 case r5=>intro d;exact(h.r5 (by simpa[iT,a]using d)).set g _
 case v6=>intro _;have hv:=l9.put (w0:=w0) (w:=w) s g f;simpa[iT,a]using hv
 case v7=>
  intro d;have d:L.getD 7 ae=af:=by simpa[iT,a]using d
  have hv:=(h.v7 d).set (b:=b) (λe=>h.d67 i d e.symm) f;simp only[iT,a]at hv⊢;exact hv
 case v8=>
  intro d;have d:L.getD 8 ae=af:=by simpa[iT,a]using d
  have hv:=(h.v8 d).set (b:=b) (λe=>h.d68 i d e.symm) f;simp only[iT,a]at hv⊢;exact hv
 case d13=>simpa[iT,a]using h.d13
 case d15=>simpa[iT,a]using h.d15
 case d35=>simpa[iT,a]using h.d35
 case d67=>simpa[iT,a]using h.d67
 case d68=>simpa[iT,a]using h.d68
 case d78=>simpa[iT,a]using h.d78
 case s9=>intro _;simpa[iT,a]using i
 case s10=>simpa[iT,a]using h.s10
 case s11=>simpa[iT,a]using h.s11
theorem R3.Vf {w0:ag}{n:Nat}{L:Array Bool}{b:Nat}{c:au}{j k l m o f q r:au}{w:ag}(h:R3 w0 n L j (.pointer (ax ⟨b,0,ah⟩)) k l m o f q r w)(i:L.getD 7 ae=af)(s:w0.heap.size<=b)(g:w.heap[b]?=ax (.cells #[c] 36)):R3 w0 n (L.setIfInBounds 10 af) j (.pointer (ax ⟨b,0,ah⟩)) k l m o f q r (w.setCell ⟨b,0,ah⟩ f):=by
 have a:=h.size;constructor
 case below=>exact h.below.setCell (p:=⟨b,0,ah⟩) s _
 case size=>simpa using a
 case m0=>simpa[iT,a]using h.m0
 case m2=>simpa[iT,a]using h.m2
 case m4=>simpa[iT,a]using h.m4
 case r1=>intro d;exact(h.r1 (by simpa[iT,a]using d)).set g _
 case r3=>intro d;exact(h.r3 (by simpa[iT,a]using d)).set g _
 case r5=>intro d;exact(h.r5 (by simpa[iT,a]using d)).set g _
 case v6=>
  intro d;have d:L.getD 6 ae=af:=by simpa[iT,a]using d
  have hv:=(h.v6 d).set (b:=b) ((h.d67 d i)) f;simp only[iT,a]at hv⊢;exact hv
 case v7=>intro _;have hv:=l9.put (w0:=w0) (w:=w) s g f;simpa[iT,a]using hv
 case v8=>
  intro d;have d:L.getD 8 ae=af:=by simpa[iT,a]using d
  have hv:=(h.v8 d).set (b:=b) (λe=>h.d78 i d e.symm) f;simp only[iT,a]at hv⊢;exact hv
 case d13=>simpa[iT,a]using h.d13
 case d15=>simpa[iT,a]using h.d15
 case d35=>simpa[iT,a]using h.d35
 case d67=>simpa[iT,a]using h.d67
 case d68=>simpa[iT,a]using h.d68
 case d78=>simpa[iT,a]using h.d78
 case s9=>simpa[iT,a]using h.s9
 case s10=>intro _;simpa[iT,a]using i
 case s11=>simpa[iT,a]using h.s11
theorem R3.oQ {w0:ag}{n:Nat}{L:Array Bool}{b:Nat}{c:au}{i j k l m o q e:au}{w:ag}(h:R3 w0 n L i j (.pointer (ax ⟨b,0,ah⟩)) k l m o q e w)(g:L.getD 8 ae=af)(r:w0.heap.size<=b)(f:w.heap[b]?=ax (.cells #[c] 36)):R3 w0 n (L.setIfInBounds 11 af) i j (.pointer (ax ⟨b,0,ah⟩)) k l m o q e (w.setCell ⟨b,0,ah⟩ e):=by
 have a:=h.size;constructor
 case below=>exact h.below.setCell (p:=⟨b,0,ah⟩) r _
 case size=>simpa using a
 case m0=>simpa[iT,a]using h.m0
 case m2=>simpa[iT,a]using h.m2
 case m4=>simpa[iT,a]using h.m4
 case r1=>intro d;exact(h.r1 (by simpa[iT,a]using d)).set f _
 case r3=>intro d;exact(h.r3 (by simpa[iT,a]using d)).set f _
 case r5=>intro d;exact(h.r5 (by simpa[iT,a]using d)).set f _
 case v6=>
  intro d;have d:L.getD 6 ae=af:=by simpa[iT,a]using d
  have hv:=(h.v6 d).set (b:=b) ((h.d68 d g)) e;simp only[iT,a]at hv⊢;exact hv
 case v7=>
  intro d;have d:L.getD 7 ae=af:=by simpa[iT,a]using d
  have hv:=(h.v7 d).set (b:=b) ((h.d78 d g)) e;simp only[iT,a]at hv⊢;exact hv
 case v8=>intro _;have hv:=l9.put (w0:=w0) (w:=w) r f e;simpa[iT,a]using hv
 case d13=>simpa[iT,a]using h.d13
 case d15=>simpa[iT,a]using h.d15
 case d35=>simpa[iT,a]using h.d35
 case d67=>simpa[iT,a]using h.d67
 case d68=>simpa[iT,a]using h.d68
 case d78=>simpa[iT,a]using h.d78
 case s9=>simpa[iT,a]using h.s9
 case s10=>simpa[iT,a]using h.s10
 case s11=>intro _;simpa[iT,a]using g
def kQ (w:ag)(s:au)(L:List UInt8):Prop:=(L=[]/\s=.slice ah 0 0)\/(L≠[]/\∃h,s=.slice (ax ⟨h,0,ah⟩) L.length L.length/\jI w h L)
theorem kQ.below {w w':ag}{s:au}{L:List UInt8}(h:kQ w s L)(a:aB w.heap.size w w'):kQ w' s L:=by
 rcases h with h|⟨b,g,c,d⟩
 ·exact .inl h
 ·exact .inr ⟨b,g,c,d.below a⟩
def vT (neg:Bool)(L:List UInt8):ByteArray:=if L=[]then⟨#[48]⟩else zA neg++⟨(lU L).toArray⟩
theorem O7 (neg:Bool)(s:au)(L:List UInt8)(e:Int)(w:ag)(D:kQ w s L)(hn:L.length<=1000000)(hd:∀b∈L,b.toNat<=9):
  Calls Tryz.prog 195 #[oM neg s e] w λr w'=>r=.returned (.string (vT neg L))/\aB w.heap.size w w':=by
 rcases D with⟨rfl,rfl⟩|⟨j,h,rfl,q⟩
 ·unfold oM
  clear hd hn;go_enter Tryz.func195,Tryz.ntmps195;go_wp2;go_ret;exact⟨rfl,iW w _⟩
 ·have c:∀W',aB w.heap.size w W'->jI W' h L:=λW' c=>q.below c
  have f:=ay (λ(W:ag) (E:aB w.heap.size w W)=>O6 neg L h e W (c W E) hn hd);have g:=ay (λ(W:ag)=>O5 neg (.slice (ax ⟨h,0,ah⟩) L.length L.length) e ⟨_,_,_,rfl⟩ W);have k:=ay (show vT neg L=zA neg++⟨(lU L).toArray⟩ by unfold vT;rw[gZ j]);have t:0<L.length:=List.length_pos_iff.2 j;have u:(lU L).toArray.size=L.length:=by simp[lU]
  unfold oM at f g⊢;obtain⟨C,l⟩:∃C:ByteArray,(⟨(lU L).toArray⟩:ByteArray)=C:=⟨_,rfl⟩;have m:C.size=L.length:=by rw[<-l];exact u
  obtain⟨S,hS⟩:∃S:ByteArray,zA neg=S:=⟨_,rfl⟩;have v:S.size<=1:=by rw[<-hS];cases neg<;>decide
  rw[l]at f k;rw[hS]at g k;obtain⟨n,y⟩:=iC L.length;rw[y]at f g m t hn⊢;have H:((n:Int)==0)=ae:=iI
  have I:(n:Int)<=1000000:=iE
  have z:=ay (iJ m (iJ v hn));clear c j hd q u l hS y m v t hn;go_enter Tryz.func195,Tryz.ntmps195
  go_upto_region 3 with fail
  obtain⟨W0,o⟩:=iC (w.alloc (.cells #[.bool neg,.slice (ax ⟨h,0,ah⟩) n n,.int .i64 e] 219));have i:PLift (aB w.heap.size w W0/\W0.heap[w.heap.size]?=ax (.cells #[.bool neg,.slice (ax ⟨h,0,ah⟩) n n,.int .i64 e] 219)/\w.heap.size<W0.heap.size):=⟨by rw[<-o];exact⟨iW w _,aA w _,(aC.1 (aA w _)).1⟩⟩;rw[o];clear o
  have d:PLift (∀X:ag,aB W0.heap.size W0 X->X.cell? ⟨w.heap.size,0,ah⟩=ax (.bool neg)/\X.cell? ⟨w.heap.size,1,ah⟩=ax (.slice (ax ⟨h,0,ah⟩) n n)/\X.cell? ⟨w.heap.size,2,ah⟩=ax (.int .i64 e)/\aB w.heap.size w X):=⟨λX A=>by have p:=(A.block _ i.1.2.2).trans i.1.2.1;exact⟨az p 0,az p 1,az p 2,i.1.1.trans (A.mono (Nat.le_of_lt i.1.2.2))⟩⟩
  refine Mix.mM (aF:=?_) iF iF iF iF iF ?_ ?_;rotate_left 1
  ·intro ρ a
   have J:=λx:iR.Grow ρ=>(d.1 x.w (a.trans (x.h.mono a.size))).1
   have K:=λx:iR.Grow ρ=>(d.1 x.w (a.trans (x.h.mono a.size))).2.1
   have M:=λx:iR.Grow ρ=>(d.1 x.w (a.trans (x.h.mono a.size))).2.2.1
   have c:=λx:iR.Grow ρ=>(d.1 x.w (a.trans (x.h.mono a.size))).2.2.2
   have F:=ay c;have N:S.size<=1:=z.1.2.1;have O:C.size<=1000000:=(by have:=z.1;omega);have P:¬(9223372036854775807:Int)<(S.size:Int)+(C.size:Int):=iE;clear c
   repeat(go_big_quiet_step((first
    |(go_at_call 211;exact iR.Grow.calls (g.1 _))
    |(go_at_call 212;exact iR.Grow.calls (f.1 _ (F.1 _))))))
   apply aJ;exact rfl
  intro W B;have G:=ay (d.1 W B).2.2.2;clear B;go_wp2;go_ret;exact⟨by rw[k.1];rfl,G.1⟩
def Be (W:ag):Prop:=∀n:Int,-9223372036854775808<=n->n<=9223372036854775807->
 Calls Tryz.prog 81 #[.int .i64 n] W λe w'=>e=.returned (.string ⟨(aH n).toArray⟩)/\aB W.heap.size W w'
def textF (neg:Bool)(L:List UInt8)(e:Int):ByteArray:=(vT neg L++⟨#[101]⟩)++⟨(aH e).toArray⟩
theorem O8 (neg:Bool)(L:List UInt8):(vT neg L).size<=L.length+1:=by
 unfold vT;split
 ·exact Nat.succ_le_succ (Nat.zero_le _)
 ·rw[ByteArray.size_append]
  have a:(zA neg).size<=1:=by cases neg<;>decide
  have b:(⟨(lU L).toArray⟩:ByteArray).size=L.length:=by show(lU L).toArray.size=_;simp[lU]
  omega
theorem O9 (neg:Bool)(s:au)(L:List UInt8)(e:Int)(w:ag)(i:kQ w s L)(hn:L.length<=1000000)(hd:∀b∈L,b.toNat<=9)
  (z: -9223372036854775808<=e)(A:e<=9223372036854775807)(hi:(aH e).length<=100)(B:∀W,aB w.heap.size w W->Be W):
  Calls Tryz.prog 177 #[oM neg s e] w λr w'=>r=.returned (.string (textF neg L e))/\aB w.heap.size w w':=by
 have j:=ay (λ(W:ag) (k:aB w.heap.size w W)=>O7 neg s L e W (i.below k) hn hd);have D:=ay (λ(W:ag) (k:aB w.heap.size w W)=>B W k e z A);have l:=ay (show textF neg L e=(vT neg L++⟨#[101]⟩)++⟨(aH e).toArray⟩from rfl);have E:=O8 neg L;obtain⟨C,F⟩:=iC (vT neg L);obtain⟨f,o⟩:∃f:ByteArray,(⟨(aH e).toArray⟩:ByteArray)=f:=⟨_,rfl⟩;have G:f.size<=100:=by rw[<-o];exact hi
 rw[F]at j l E;rw[o]at D l
 have K:∃p n c,s=.slice p n c:=by
  rcases i with⟨_,rfl⟩|⟨_,h,rfl,_⟩
  ·exact⟨_,_,_,rfl⟩
  ·exact⟨_,_,_,rfl⟩
 obtain⟨p,m,c,rfl⟩:=K;have q:C.size<=1000001:=iE
 have t:(C++(⟨#[101]⟩:ByteArray)).size<=1000002:=by rw[ByteArray.size_append];show _+1<=_;omega
 have u:=ay (iJ q (iJ t G));unfold oM at j⊢;clear i hn hd z A hi B E F o G q t;go_enter Tryz.func177,Tryz.ntmps177
 go_upto_region 1 with fail
 obtain⟨W0,v⟩:=iC (w.alloc (.cells #[.bool neg,.slice p m c,.int .i64 e] 219));have g:PLift (aB w.heap.size w W0/\W0.heap[w.heap.size]?=ax (.cells #[.bool neg,.slice p m c,.int .i64 e] 219)/\w.heap.size<W0.heap.size):=⟨by rw[<-v];exact⟨iW w _,aA w _,(aC.1 (aA w _)).1⟩⟩;rw[v];clear v
 have d:PLift (∀X:ag,aB W0.heap.size W0 X->X.cell? ⟨w.heap.size,0,ah⟩=ax (.bool neg)/\X.cell? ⟨w.heap.size,1,ah⟩=ax (.slice p m c)/\X.cell? ⟨w.heap.size,2,ah⟩=ax (.int .i64 e)/\aB w.heap.size w X):=⟨λX H=>by have y:=(H.block _ g.1.2.2).trans g.1.2.1;exact⟨az y 0,az y 1,az y 2,g.1.1.trans (H.mono (Nat.le_of_lt g.1.2.2))⟩⟩
 refine Mix.mM (aF:=?_) iF iF iF iF iF ?_ ?_;rotate_left 1
 ·intro ρ a
  have N:=λx:iR.Grow ρ=>(d.1 x.w (a.trans (x.h.mono a.size))).1
  have O:=λx:iR.Grow ρ=>(d.1 x.w (a.trans (x.h.mono a.size))).2.1
  have P:=λx:iR.Grow ρ=>(d.1 x.w (a.trans (x.h.mono a.size))).2.2.1
  have I:=ay (λx:iR.Grow ρ=>(d.1 x.w (a.trans (x.h.mono a.size))).2.2.2);have q:=u.1.1;have t:=u.1.2.1;have Q:=u.1.2.2;have R:¬(9223372036854775807:Int)<((C++(⟨#[101]⟩:ByteArray)).size:Int)+(f.size:Int):=iE
  repeat(go_big_quiet_step((first
   |(go_at_call 195;exact iR.Grow.calls (j.1 _ (I.1 _)))
   |(go_at_call 81;exact iR.Grow.calls (D.1 _ (I.1 _))))))
  apply aJ;exact rfl
 intro W J;have M:=ay (d.1 W J).2.2.2;clear J;go_wp2;go_ret;exact⟨by rw[l.1];rfl,M.1⟩
