import Derived.Test.YthcalnnipjflkaaGreatDoorP35
open List renaming replicate -> ae, setIfInBounds_toArray -> ax, set_cons_succ -> aB, set_cons_zero -> aC, getElem?_eq_some_iff -> aI, mem_append -> aP, length_pos_iff -> aQ, mem_singleton -> aS
open PLift renaming up -> af
open Option renaming some -> ag, none -> ah
open Bool renaming true -> aj, false -> ay
open Go.Lib renaming cell_of_heap -> au, frozen_of_heap -> aJ
open Go.Proofs.Tryz renaming prog -> az, func72 -> aT
open Go renaming World -> aA, Value -> aH, Operand -> aN, wpQuiet_nil -> aO, Oper -> aV
open Nat renaming le_trans -> aK, le_succ -> aU
set_option linter.all false
set_option maxHeartbeats 8000000
set_option maxRecDepth 100000
namespace Go.Proofs.YthcalnnipjflkaaGreatDoor
open Go.RowKit
open Go.Lib hiding intOf
theorem LY {o:aV}{a:Act}(s x:aN)(c:o.op=.call {callee:=.builtin .append,args:=#[s,x],argTypes:=#[36,36]}){w:aA}{B:Nat}{v:aH}{l:List Int}(n:Int)(hv:a.eval s=v)(hx:a.eval x=.slice (ag ⟨w.heap.size,0,ah⟩) 1 1)
  (d:w.ownsRow B 3 1 v l.length (l.map (Value.int .i64)))(r:l.length<=1000000)(t:B<=w.heap.size):
  ∃v' W',(execOp a.eval o).run az (w.alloc (.cells #[.int .i64 n] 3))=.ok (.value v') W'/\W'.ownsRow B 3 1 v' (l.length+1) (l.map (Value.int .i64)++[.int .i64 n])/\
   (w.alloc (.cells #[.int .i64 n] 3)).grownBy W' v.ownBlock/\∀k,v'.ownBlock=ag k->v.ownBlock=ag k\/(w.alloc (.cells #[.int .i64 n] 3)).heap.size<=k:=by
 obtain⟨e,hi,f,g,h⟩:=info_parts YN
 obtain⟨v',W',hr,i,m,p⟩:=uZ.YK (P:=az) (w:=w.alloc (.cells #[.int .i64 n] 3)) B 36 o.type 3 e (.int .i64 0) 1 8 Tryz.underlying36 hi f g h rfl iG v l.length (l.map (Value.int .i64)) (World.ownsRow.alloc d _) ⟨w.heap.size,0,ah⟩ 1 1 [.int .i64 n] rfl (by
  intro j u q;have e1:(⟨w.heap.size,0,ah⟩:Addr).add j=⟨w.heap.size,j,ah⟩:=by unfold Addr.add;split<;>simp_all
  rw[e1,au (heap_alloc_new w _) j];simpa using q) (by intro u b;simp at b;subst b;rfl) iG (by unfold maxLen;omega) iE (by rw[jl];omega)
 refine⟨v',W',?_,i,m,p⟩;unfold execOp;simp only[c,resolve,invoke,builtin,Sem.run_bind,Sem.run_pure,Result.andThen_ok,List.map_toArray,List.map_cons,List.map_nil,hv,hx,hr]
theorem LZ {a:Act}{o:aV}{nb:Nat}(p:aN)(b:o.op=.nilCheck p)(hp:a.eval p=.pointer (ag ⟨nb,0,ah⟩))(W:aA):(execOp a.eval o).run az W=.ok (.value (.pointer (ag ⟨nb,0,ah⟩))) W:=by unfold execOp;rw[b];simp only[hp];go_simp
theorem L6 {a:Act}{o:aV}{nb:Nat}(p:aN)(j:Nat)(b:j=3\/j=4)(c:o.op=.fieldAddr 150 p j)(hp:a.eval p=.pointer (ag ⟨nb,0,ah⟩))(W:aA):(execOp a.eval o).run az W=.ok (.value (.pointer (ag ⟨nb,j,ah⟩))) W:=by
 unfold execOp;rw[c];simp only[hp];rcases b with rfl|rfl
 ·go_simp
 ·go_simp
theorem L8 {a:Act}{o:aV}{nb j:Nat}(p v:aN)(b:o.op=.store 36 p v)(A:Option Addr)(n c:Nat)(hp:a.eval p=.pointer (ag ⟨nb,j,ah⟩))(hv:a.eval v=.slice A n c)(W:aA)(x:aH)(hx:W.cell? ⟨nb,j,ah⟩=ag x)(hf:W.frozen? ⟨nb,j,ah⟩=ay):(execOp a.eval o).run az W=.ok .skip (W.setCell ⟨nb,j,ah⟩ (.slice A n c)):=by unfold execOp;rw[b];simp only[hp,hv];go_simp
section
variable {ex:Nat->Prop} {B pb nb:Nat} {s:ByteArray} {kd:Int} {o:Bool} {w0:aA} {je:aH} {q1:Nat} {M:List Nd} {nv:aH} {ks is:List Int} {kv iv:aH} {Z:aA} {k:Nat}
theorem Zd {Q:Exit->Act->aA->Prop}{id:Nat}{a:Act}{l:List aV}(i m q on of os:aV){aF:Act}(z C:aN)(v:Int)
  (L:l.length=8+6)(hsc:Go.iR.mJ .any l.toArray (8+3)=aj)(hs:Region.noSelect l.toArray=aj)
  (N:Mix.kN .any l.toArray 8 0 (Array.replicate l.length ay)=ag (ae 8 aj++ae (3+3) ay).toArray)(hd:Mix.kS a.tmps.size (l.take 8) []=aj)
  (O:l[8]?=ag i)(P:l[8+1]?=ag m)(R:l[8+2]?=ag q)(S:l[8+3]?=ag on)(p:l[8+4]?=ag of)(b:l[8+5]?=ag os)
  (gs:i.guard=ah/\m.guard=ah/\q.guard=ah/\on.guard=ah/\of.guard=ah/\os.guard=ah)(T:os.dst=ah)
  (U:Region.ready .any l.toArray (ae 8 aj++ae (3+3) ay).toArray=[8])
  (X:Region.ready .any l.toArray ((ae 8 aj++ae (3+3) ay).toArray.setIfInBounds 8 aj)=[8+1])
  (Y:Region.ready .any l.toArray (((ae 8 aj++ae (3+3) ay).toArray.setIfInBounds 8 aj).setIfInBounds (8+1) aj)=[8+2])
  (aa:Region.ready .any l.toArray ((((ae 8 aj++ae (3+3) ay).toArray.setIfInBounds 8 aj).setIfInBounds (8+1) aj).setIfInBounds (8+2) aj)=[8+3])
  (ab:Region.ready .any l.toArray (((((ae 8 aj++ae (3+3) ay).toArray.setIfInBounds 8 aj).setIfInBounds (8+1) aj).setIfInBounds (8+2) aj).setIfInBounds (8+3) aj)=[8+4])
  (ac:Region.ready .any l.toArray ((((((ae 8 aj++ae (3+3) ay).toArray.setIfInBounds 8 aj).setIfInBounds (8+1) aj).setIfInBounds (8+2) aj).setIfInBounds (8+3) aj).setIfInBounds (8+4) aj)=[8+5])
  (ad:Region.ready .any l.toArray (((((((ae 8 aj++ae (3+3) ay).toArray.setIfInBounds 8 aj).setIfInBounds (8+1) aj).setIfInBounds (8+2) aj).setIfInBounds (8+3) aj).setIfInBounds (8+4) aj).setIfInBounds (8+5) aj)=[])
  (y:II ex B pb nb s kd o w0 je q1 M nv ks is kv iv Z)(hv:ValAt k s)(ai:0<=v/\v+(k:Int)=33)(ak:jO s.data.toList.length M)(al:M.length<=4096)(am:q1<=s.size)(a2:ks.length<=4096)(a3:is.length<=4096)
  (hA:∀ρ:aA,NB nb kd o kv iv ρ->wpQuiet az l.toArray (λw'=>∃n,w'=ρ.drewN n) (λa'=>a'=aF) (l.take 8) a)
  (hc:∀W,(execOp aF.eval i).run az W=.ok (.enter 72 #[.pointer (ag ⟨pb,0,ah⟩),.int .i64 v]) W)
  (an:∀x W,(execOp (aF.put i.dst (.int .i64 x)).eval m).run az W=.ok (.value (.slice (ag ⟨W.heap.size,0,ah⟩) 1 1)) (W.alloc (.cells #[.int .i64 x] 3)))
  (ao:q.op=.call {callee:=.builtin .append,args:=#[z,C],argTypes:=#[36,36]})
  (ap:∀x u,((aF.put i.dst (.int .i64 x)).put m.dst u).eval z=kv)(aq:∀x u,((aF.put i.dst (.int .i64 x)).put m.dst u).eval C=u)
  (D E F G:aN)(ar:on.op=.nilCheck D)(av:of.op=.fieldAddr 150 E 3)(aw:os.op=.store 36 F G)
  (aD:∀x u v',(((aF.put i.dst (.int .i64 x)).put m.dst u).put q.dst v').eval D=.pointer (ag ⟨nb,0,ah⟩))
  (aE:∀x u v',((((aF.put i.dst (.int .i64 x)).put m.dst u).put q.dst v').put on.dst (.pointer (ag ⟨nb,0,ah⟩))).eval E=.pointer (ag ⟨nb,0,ah⟩))
  (aG:∀x u v',(((((aF.put i.dst (.int .i64 x)).put m.dst u).put q.dst v').put on.dst (.pointer (ag ⟨nb,0,ah⟩))).put of.dst (.pointer (ag ⟨nb,3,ah⟩))).eval F=.pointer (ag ⟨nb,3,ah⟩))
  (aL:∀x u v',(((((aF.put i.dst (.int .i64 x)).put m.dst u).put q.dst v').put on.dst (.pointer (ag ⟨nb,0,ah⟩))).put of.dst (.pointer (ag ⟨nb,3,ah⟩))).eval G=v')
  (aM:jd s.data.toList k q1 M=ah->∀a' W,a'.defers=a.defers->Below B Z W->Q (.panic tK) a' W)
  (hK:∀d f,jd s.data.toList k q1 M=ag (d,f)->∀u A n c W g,II ex B pb nb s kd o w0 je d f g (ks++[(M.length:Int)]) is (.slice A n c) iv W->Q .normal (((((aF.put i.dst (.int .i64 (M.length:Int))).put m.dst u).put q.dst (.slice A n c)).put on.dst (.pointer (ag ⟨nb,0,ah⟩))).put of.dst (.pointer (ag ⟨nb,3,ah⟩))) W):(Code.region id l.toArray aj).wp az Q a Z:=by
 have aR:=λn=>hv _ B pb q1 M nv (Z.drewN n) v ai (y.drewN n).pv (y.drewN n).exs ak al am
 refine uZ.LK 8 i m q on of os (NB nb kd o kv iv) 72 #[.pointer (ag ⟨pb,0,ah⟩),.int .i64 v]
  (λx W=>∃d f g,jd s.data.toList k q1 M=ag (d,f)/\x=(M.length:Int)/\II ex B pb nb s kd o w0 je d f g ks is kv iv W)
  (λx v' W=>∃d f g V,jd s.data.toList k q1 M=ag (d,f)/\x=(M.length:Int)/\IA ex B pb nb s kd o w0 je d f g ks is kv iv kv v' ks x V W)
  (λJ W=>J=tK/\jd s.data.toList k q1 M=ah/\Below B Z W) 3 iF L hsc hs N hd O P R S p b gs T U X Y aa ab ac ad
  (λn=>y.box) hA hc ?_ ?_ ?_ ?_ an ?_ ?_ ?_ ?_
 ·rintro J a' W a0 ⟨rfl,j,a1⟩
  exact aM j a' W a0 a1
 ·intro n
  refine(aR n).mono λe W h=>?_
  unfold VP at h;cases hval:jd s.data.toList k q1 M with
  |none=>rw[hval]at h;exact .inr ⟨_,h.1,rfl,rfl,(((Same.refl Z).drewN n).below B).trans h.2⟩
  |some r=>obtain⟨d,f⟩:=r;rw[hval]at h;obtain⟨j,g,p,b⟩:=h;exact .inl ⟨_,j,d,f,g,rfl,rfl,(y.drewN n).val p b⟩
 ·rintro x W n ⟨d,f,g,j,p,b⟩
  exact⟨d,f,g,j,p,b.drewN n⟩
 ·rintro x W ⟨d,f,g,j,p,b⟩
  exact⟨b.box,(b.grow (iW W _)).box⟩
 ·rintro x W ⟨d,f,g,j,p,b⟩
  obtain⟨v',W',hr,H,t,I⟩:=LY z C ao (a:=(aF.put i.dst (.int .i64 x)).put m.dst (.slice (ag ⟨W.heap.size,0,ah⟩) 1 1)) (w:=W) x (ap x _) (aq x _) b.kr iE b.pi.size;exact⟨v',W',hr,d,f,g,W,j,p,b,H,t,I⟩
 ·rintro x v' W n ⟨d,f,g,V,j,p,b,H,t,I⟩
  exact⟨d,f,g,V,j,p,b,H,⟨t.os,t.tape,t.output,t.size,t.block⟩,I⟩
 ·rintro x v' W ⟨d,f,g,V,j,p,b⟩
  exact b.FV
 ·rintro x u v' W ⟨d,f,g,V,j,rfl,b⟩
  obtain⟨A,c,rfl⟩:=mW b.row;have K:=b.FV;exact⟨_,_,_,LZ D ar (aD _ u _) W,L6 E 3 iG av (aE _ u _) W,L8 F G aw A _ c (aG _ u _) (aL _ u _) W _ ((au K 3).trans rfl) (aJ K 3),hK d f j u A _ c _ g b.YS⟩
theorem L9 {Q:Exit->Act->aA->Prop}{id:Nat}{a:Act}{l:List aV}(i m q on of os:aV){aF:Act}(z C:aN)(v:Int)
  (L:l.length=8+6)(hsc:Go.iR.mJ .any l.toArray (8+3)=aj)(hs:Region.noSelect l.toArray=aj)
  (N:Mix.kN .any l.toArray 8 0 (Array.replicate l.length ay)=ag (ae 8 aj++ae (3+3) ay).toArray)(hd:Mix.kS a.tmps.size (l.take 8) []=aj)
  (O:l[8]?=ag i)(P:l[8+1]?=ag m)(R:l[8+2]?=ag q)(S:l[8+3]?=ag on)(p:l[8+4]?=ag of)(b:l[8+5]?=ag os)
  (gs:i.guard=ah/\m.guard=ah/\q.guard=ah/\on.guard=ah/\of.guard=ah/\os.guard=ah)(T:os.dst=ah)
  (U:Region.ready .any l.toArray (ae 8 aj++ae (3+3) ay).toArray=[8])
  (X:Region.ready .any l.toArray ((ae 8 aj++ae (3+3) ay).toArray.setIfInBounds 8 aj)=[8+1])
  (Y:Region.ready .any l.toArray (((ae 8 aj++ae (3+3) ay).toArray.setIfInBounds 8 aj).setIfInBounds (8+1) aj)=[8+2])
  (aa:Region.ready .any l.toArray ((((ae 8 aj++ae (3+3) ay).toArray.setIfInBounds 8 aj).setIfInBounds (8+1) aj).setIfInBounds (8+2) aj)=[8+3])
  (ab:Region.ready .any l.toArray (((((ae 8 aj++ae (3+3) ay).toArray.setIfInBounds 8 aj).setIfInBounds (8+1) aj).setIfInBounds (8+2) aj).setIfInBounds (8+3) aj)=[8+4])
  (ac:Region.ready .any l.toArray ((((((ae 8 aj++ae (3+3) ay).toArray.setIfInBounds 8 aj).setIfInBounds (8+1) aj).setIfInBounds (8+2) aj).setIfInBounds (8+3) aj).setIfInBounds (8+4) aj)=[8+5])
  (ad:Region.ready .any l.toArray (((((((ae 8 aj++ae (3+3) ay).toArray.setIfInBounds 8 aj).setIfInBounds (8+1) aj).setIfInBounds (8+2) aj).setIfInBounds (8+3) aj).setIfInBounds (8+4) aj).setIfInBounds (8+5) aj)=[])
  (y:II ex B pb nb s kd o w0 je q1 M nv ks is kv iv Z)(hv:ValAt k s)(ai:0<=v/\v+(k:Int)=33)(ak:jO s.data.toList.length M)(al:M.length<=4096)(am:q1<=s.size)(a2:ks.length<=4096)(a3:is.length<=4096)
  (hA:∀ρ:aA,NB nb kd o kv iv ρ->wpQuiet az l.toArray (λw'=>∃n,w'=ρ.drewN n) (λa'=>a'=aF) (l.take 8) a)
  (hc:∀W,(execOp aF.eval i).run az W=.ok (.enter 72 #[.pointer (ag ⟨pb,0,ah⟩),.int .i64 v]) W)
  (an:∀x W,(execOp (aF.put i.dst (.int .i64 x)).eval m).run az W=.ok (.value (.slice (ag ⟨W.heap.size,0,ah⟩) 1 1)) (W.alloc (.cells #[.int .i64 x] 3)))
  (ao:q.op=.call {callee:=.builtin .append,args:=#[z,C],argTypes:=#[36,36]})
  (ap:∀x u,((aF.put i.dst (.int .i64 x)).put m.dst u).eval z=iv)(aq:∀x u,((aF.put i.dst (.int .i64 x)).put m.dst u).eval C=u)
  (D E F G:aN)(ar:on.op=.nilCheck D)(av:of.op=.fieldAddr 150 E 4)(aw:os.op=.store 36 F G)
  (aD:∀x u v',(((aF.put i.dst (.int .i64 x)).put m.dst u).put q.dst v').eval D=.pointer (ag ⟨nb,0,ah⟩))
  (aE:∀x u v',((((aF.put i.dst (.int .i64 x)).put m.dst u).put q.dst v').put on.dst (.pointer (ag ⟨nb,0,ah⟩))).eval E=.pointer (ag ⟨nb,0,ah⟩))
  (aG:∀x u v',(((((aF.put i.dst (.int .i64 x)).put m.dst u).put q.dst v').put on.dst (.pointer (ag ⟨nb,0,ah⟩))).put of.dst (.pointer (ag ⟨nb,4,ah⟩))).eval F=.pointer (ag ⟨nb,4,ah⟩))
  (aL:∀x u v',(((((aF.put i.dst (.int .i64 x)).put m.dst u).put q.dst v').put on.dst (.pointer (ag ⟨nb,0,ah⟩))).put of.dst (.pointer (ag ⟨nb,4,ah⟩))).eval G=v')
  (aM:jd s.data.toList k q1 M=ah->∀a' W,a'.defers=a.defers->Below B Z W->Q (.panic tK) a' W)
  (hK:∀d f,jd s.data.toList k q1 M=ag (d,f)->∀u A n c W g,II ex B pb nb s kd o w0 je d f g ks (is++[(M.length:Int)]) kv (.slice A n c) W->Q .normal (((((aF.put i.dst (.int .i64 (M.length:Int))).put m.dst u).put q.dst (.slice A n c)).put on.dst (.pointer (ag ⟨nb,0,ah⟩))).put of.dst (.pointer (ag ⟨nb,4,ah⟩))) W):(Code.region id l.toArray aj).wp az Q a Z:=by
 have aR:=λn=>hv _ B pb q1 M nv (Z.drewN n) v ai (y.drewN n).pv (y.drewN n).exs ak al am
 refine uZ.LK 8 i m q on of os (NB nb kd o kv iv) 72 #[.pointer (ag ⟨pb,0,ah⟩),.int .i64 v]
  (λx W=>∃d f g,jd s.data.toList k q1 M=ag (d,f)/\x=(M.length:Int)/\II ex B pb nb s kd o w0 je d f g ks is kv iv W)
  (λx v' W=>∃d f g V,jd s.data.toList k q1 M=ag (d,f)/\x=(M.length:Int)/\IA ex B pb nb s kd o w0 je d f g ks is kv iv iv v' is x V W)
  (λJ W=>J=tK/\jd s.data.toList k q1 M=ah/\Below B Z W) 3 iF L hsc hs N hd O P R S p b gs T U X Y aa ab ac ad
  (λn=>y.box) hA hc ?_ ?_ ?_ ?_ an ?_ ?_ ?_ ?_
 ·rintro J a' W a0 ⟨rfl,j,a1⟩
  exact aM j a' W a0 a1
 ·intro n
  refine(aR n).mono λe W h=>?_
  unfold VP at h;cases hval:jd s.data.toList k q1 M with
  |none=>rw[hval]at h;exact .inr ⟨_,h.1,rfl,rfl,(((Same.refl Z).drewN n).below B).trans h.2⟩
  |some r=>obtain⟨d,f⟩:=r;rw[hval]at h;obtain⟨j,g,p,b⟩:=h;exact .inl ⟨_,j,d,f,g,rfl,rfl,(y.drewN n).val p b⟩
 ·rintro x W n ⟨d,f,g,j,p,b⟩
  exact⟨d,f,g,j,p,b.drewN n⟩
 ·rintro x W ⟨d,f,g,j,p,b⟩
  exact⟨b.box,(b.grow (iW W _)).box⟩
 ·rintro x W ⟨d,f,g,j,p,b⟩
  obtain⟨v',W',hr,H,t,I⟩:=LY z C ao (a:=(aF.put i.dst (.int .i64 x)).put m.dst (.slice (ag ⟨W.heap.size,0,ah⟩) 1 1)) (w:=W) x (ap x _) (aq x _) b.ir iE b.pi.size;exact⟨v',W',hr,d,f,g,W,j,p,b,H,t,I⟩
 ·rintro x v' W n ⟨d,f,g,V,j,p,b,H,t,I⟩
  exact⟨d,f,g,V,j,p,b,H,⟨t.os,t.tape,t.output,t.size,t.block⟩,I⟩
 ·rintro x v' W ⟨d,f,g,V,j,p,b⟩
  exact b.FW
 ·rintro x u v' W ⟨d,f,g,V,j,rfl,b⟩
  obtain⟨A,c,rfl⟩:=mW b.row;have K:=b.FW;exact⟨_,_,_,LZ D ar (aD _ u _) W,L6 E 4 iG av (aE _ u _) W,L8 F G aw A _ c (aG _ u _) (aL _ u _) W _ ((au K 4).trans rfl) (aJ K 4),hK d f j u A _ c _ g b.YT⟩
end
def pg (v:Nat->List Nd->Option (Nat×List Nd))(s:List UInt8)(fin:UInt8)(c:Bool)(f p1:Nat)(N:List Nd)(ks is:List Int):Option (Nat×List Nd×List Int×List Int):=
 match c with
 |false=>match v p1 N with
  |none=>ah
  |some (b,a)=>kK v s fin ay f b a ks (is++[(N.length:Int)])
 |true=>match v p1 N with
  |none=>ah
  |some (b,a)=>match kG s b 61 with
   |none=>ah
   |some d=>match v d a with
    |none=>ah
    |some (e,g)=>kK v s fin aj f e g (ks++[(N.length:Int)]) (is++[(a.length:Int)])
section
variable {v:Nat->List Nd->Option (Nat×List Nd)} {S:List UInt8} {fin:UInt8} {m:Bool} {f p p1:Nat} {N:List Nd} {ks is:List Int}
theorem Ze (h:S[p]?=ag fin):kK v S fin m (f+1) p N ks is=ag (p+1,N,ks,is):=by unfold kK;rw[gY h]
theorem Mc (h:S[p]?≠ag fin)(p1:Nat)(a:(if is=[]then ag p else kG S p 44)=ag p1):kK v S fin m (f+1) p N ks is=pg v S fin m f p1 N ks is:=by
 conv=>lhs;unfold kK
 rw[gZ h,a];cases m<;>rfl
theorem Zf (h:S[p]?≠ag fin)(a:(if is=[]then ag p else kG S p 44)=ah):kK v S fin m (f+1) p N ks is=ah:=by
 conv=>lhs;unfold kK
 rw[gZ h,a]
theorem Zg (h:v p1 N=ah):pg v S fin ay f p1 N ks is=ah:=by unfold pg;simp only[h]
theorem Zh (a:Nat)(b:List Nd)(h:v p1 N=ag (a,b)):pg v S fin ay f p1 N ks is=kK v S fin ay f a b ks (is++[(N.length:Int)]):=by unfold pg;simp only[h]
theorem Zi (h:v p1 N=ah):pg v S fin aj f p1 N ks is=ah:=by unfold pg;simp only[h]
theorem Zj (a:Nat)(b:List Nd)(h:v p1 N=ag (a,b))(c:kG S a 61=ah):pg v S fin aj f p1 N ks is=ah:=by unfold pg;simp only[h,c]
theorem Zk (a b:Nat)(c:List Nd)(h:v p1 N=ag (a,c))(d:kG S a 61=ag b)(e:v b c=ah):pg v S fin aj f p1 N ks is=ah:=by unfold pg;simp only[h,d,e]
theorem Zl (b c d:Nat)(a e:List Nd)(h:v p1 N=ag (b,a))(g:kG S b 61=ag c)(i:v c a=ag (d,e)):pg v S fin aj f p1 N ks is=kK v S fin aj f d e (ks++[(N.length:Int)]) (is++[(a.length:Int)]):=by unfold pg;simp only[h,g,i]
end
def xP (ex:Nat->Prop)(B pb nb:Nat)(s:ByteArray)(kd:Int)(o:Bool)(a:aH)(w:aA)(r:Option (Nat×List Nd×List Int×List Int))(e:Ending)(w':aA):Prop:=
 match r with
 |some (b,N',ks,is)=>e=.returned (.tuple #[])/\∃c d f,II ex B pb nb s kd o w a b N' c ks is d f w'
 |none=>e=.panicked tK/\Below B w w'
def lenOf (nb:Nat)(X:aA):Nat:=match X.cell? ⟨nb,4,ah⟩with
 |some (.slice _ n _)=>n
 |_=>0
theorem Md {ex:Nat->Prop}{B pb nb:Nat}{s:ByteArray}{kd:Int}{o:Bool}{w0:aA}{je:aH}{p:Nat}{N:List Nd}{b:aH}{ks is:List Int}{d a:aH}{X:aA}(h:II ex B pb nb s kd o w0 je p N b ks is d a X):lenOf nb X=is.length:=by
 unfold lenOf;have:X.cell? ⟨nb,4,ah⟩=ag a:=(au h.box 4).trans rfl;rw[this];obtain⟨A,c,rfl⟩:=mW h.ir
 rfl
theorem Zm {sz q a b i2:Nat}(c:q<=sz)(h:q<=a)(d:q<a\/b=0)(e:i2=b+1)(f:a<=sz):2*(sz+1 - a)+(if i2=0 then 1 else 0)<2*(sz+1 - q)+(if b=0 then 1 else 0):=by rw[gZ iE];split<;>omega
section
variable {ex:Nat->Prop} {B pb nb:Nat} {s:ByteArray} {kd:Int} {o:Bool} {w:aA} {je:aH} {p:Nat} {N:List Nd} {k:Nat}
def y8 (ex:Nat->Prop)(B pb nb:Nat)(s:ByteArray)(kd:Int)(o:Bool)(w:aA)(je:aH)(k:Nat)(fin:UInt8)(b:Bool)(a:Nat)(R:Option (Nat×List Nd×List Int×List Int))(wr:aA):Prop:=
 ∃(q:Nat) (M:List Nd) (c:aH) (ks is:List Int) (d e:aH) (f:Nat),II ex B pb nb s kd o w je q M c ks is d e wr/\oD s.data.toList a b q M ks is/\R=kK (jd s.data.toList k) s.data.toList fin b f q M ks is/\s.data.toList.length - q+1+(if is=[]then 1 else 0)<=f
theorem y8.mk {fin:UInt8}{b:Bool}{a:Nat}{R:Option (Nat×List Nd×List Int×List Int)}{wr:aA}{q:Nat}{M:List Nd}{c:aH}{ks is:List Int}{d e:aH}{f:Nat}(g:II ex B pb nb s kd o w je q M c ks is d e wr)(h:oD s.data.toList a b q M ks is)(i:R=kK (jd s.data.toList k) s.data.toList fin b f q M ks is)(j:s.data.toList.length - q+1+(if is=[]then 1 else 0)<=f):y8 ex B pb nb s kd o w je k fin b a R wr:=⟨q,M,c,ks,is,d,e,f,g,h,i,j⟩
def DD (pb nb:Nat)(s:ByteArray)(wr:aA):Nat:=2*(s.size+1 - posOf pb wr)+(if lenOf nb wr=0 then 1 else 0)
theorem Me {q a:Nat}{M e:List Nd}{f g:aH}{ks is i b:List Int}{j k l m:aH}{X Y:aA}(c:II ex B pb nb s kd o w je q M f ks is j k X)(d:II ex B pb nb s kd o w je a e g i b l m Y)(n:q<=s.size)(h:q<=a)(p:q<a\/is.length=0)(r:b.length=is.length+1)(t:a<=s.size):DD pb nb s Y<DD pb nb s X:=by unfold DD;rw[pos_at d.pv.at_,pos_at c.pv.at_,Md d,Md c];exact Zm n h p r t
theorem MC {L q a b f sz:Nat}{is:List Int}{x:Int}(d:a<=b)(c:L - q+1+(if is=[]then 1 else 0)<=f+1)(e:q<=sz/\(a=q+1\/(a=q/\is.length=0)))(g:b<=L):L - b+1+(if is++[x]=[]then 1 else 0)<=f:=by
 rw[gZ iH];by_cases h:is=[]
 ·rw[gY h]at c;omega
 ·rw[gZ h]at c
  have:0<is.length:=aQ.2 h;omega
theorem MF {q a b sz n:Nat}(h:q<=sz/\(a=q+1\/(a=q/\n=0)))(c:a<=b):q<=b:=iE
theorem MG {q a b sz n:Nat}(h:q<=sz/\(a=q+1\/(a=q/\n=0)))(c:a<=b):q<b\/n=0:=iE
theorem kC (s:ByteArray):s.data.toList.length=s.size:=iH
theorem nR {s:ByteArray}{q:Nat}(h:q<s.size):s.data.toList[q]?=ag s[q]:=Lib.data_getElem? s q h
theorem nS {q:Nat}{c:UInt8}(hc:c≠0):((lI s q:Nat):Int)=(c.toNat:Int)↔s.data.toList[q]?=ag c:=by
 unfold lI;by_cases h:q<s.size
 ·rw[dif_pos h,nR h]
  constructor
  ·intro e;rw[UInt8.toNat_inj.1 (show s[q].toNat=c.toNat by omega)]
  ·intro e;rw[Option.some.inj e]
 ·rw[dif_neg h,List.getElem?_eq_none (by rw[kC];omega)]
  constructor
  ·intro e;exact absurd (UInt8.toNat_inj.1 (show c.toNat=(0:UInt8).toNat by have:(0:UInt8).toNat=0:=rfl;omega)) hc
  ·intro e;cases e
theorem oD.kl {S:List UInt8}{a q:Nat}{m:Bool}{M:List Nd}{ks is:List Int}(h:oD S a m q M ks is):ks.length<=is.length:=by have:=h.ks;split at this<;>omega
theorem Zn {S:List UInt8}{a b c:Nat}{M d:List Nd}{ks is:List Int}(h:oD S a ay b M ks is)(hv:xG S b M c d):oD S a ay c d ks (is++[(M.length:Int)]):=by
 have f:=h.at_;have g:=hv.len;have i:=h.is;have e:ks=[]:=by have:=h.ks;simpa using this
 exact⟨hv.fin,hv.tree,iE,hv.top,JH h.refs ⟨iE,iE⟩ iE,by simp[e],iI⟩
theorem Zo {S:List UInt8}{a d i j e:Nat}{M c f:List Nd}{ks is:List Int}(h:oD S a aj d M ks is)(hv:xG S d M i c)(b:xG S j c e f):oD S a aj e f (ks++[(M.length:Int)]) (is++[(c.length:Int)]):=by
 have k:=h.at_;have l:=hv.len;have m:=h.is;have n:=b.len;have g:=h.ks;simp only[if_true]at g;refine⟨b.fin,b.tree,iE,b.top,λy hy=>?_,by simp[g],iI⟩;rw[aP,aP,aP,aS,aS]at hy;rcases hy with(hy|rfl)|(hy|rfl)
 ·have:=h.refs y (List.mem_append_left _ hy);omega
 ·omega
 ·have:=h.refs y (List.mem_append_right _ hy);omega
 ·omega
theorem FX (C:Bool)(hv:ValAt k s)(hs:s.size<=65536)(P:PV ex B pb s p N je w)(hp:p<s.size)(hex:∀b,ex b->b<w.heap.size)(bh:jO s.data.toList.length N)(bi:N.length<=4096)(a:Nat)(ha:a+1=N.length)
  (bj:NB nb kd o (.slice ah 0 0) (.slice ah 0 0) w)(bk:je.ownBlock≠ag nb)(bl:B<=nb)(bm:B<=w.heap.size)(bo:kd=if C=aj then 10 else 9)(fin:UInt8)(bp:fin≠0)(d:Int)(cv:0<=d)(hd:d+1+(k:Int)=33):
  Calls az 87 #[.pointer (ag ⟨pb,0,ah⟩),.pointer (ag ⟨nb,0,ah⟩),.int .u8 fin.toNat,.int .i64 d] w (xP ex B pb nb s kd o je w (kK (jd s.data.toList k) s.data.toList fin C (s.data.toList.length+2) (p+1) N [] [])):=by
 have bq:=kC s;have aa:=af hs;have a4:=af hv;have a5:=af (show 0<=d+1/\d+1+(k:Int)=33 from⟨iE,hd⟩);have br:=af bo;have b8:=af bp;have ab:=af bm;have ac:=af bl;have ad:=af P.above;have bs:=II.start (o:=o) (kd:=kd) P bj bk hex;have bt:((p:Int)+1)=((p+1:Nat):Int):=iE
 have b9:PLift (II ex B pb nb s kd o w je (p+1) N je [] [] (.slice ah 0 0) (.slice ah 0 0) (w.setCell ⟨pb,1,ah⟩ (.int .i64 ((p:Int)+1)))):=⟨bs.ps (PK.moved P.at_ (Same.refl _)) (P.at_.moved bt (Same.refl _))⟩;have ca:PLift (oD s.data.toList a C (p+1) N [] []):=⟨⟨by rw[bq];omega,bh,iE,bi,λx hx=>by simp at hx,iH,iI⟩⟩;obtain⟨R,hR⟩:=iC (kK (jd s.data.toList k) s.data.toList fin C (s.data.toList.length+2) (p+1) N [] []);rw[hR];have cb:=af hR;have Q:w.cell? ⟨pb,1,ah⟩=ag (.int .i64 p):=(au P.at_ 1).trans rfl;have bv:∀o,w.frozen? ⟨pb,o,ah⟩=ay:=λo=>aJ P.at_ o
 have cw:d<=32:=iE
 have cx:(p:Int)<=65536:=iE
 clear P bs bj bk hex bh bi bo bp bm bl hv hd hR ha bt hs hp bq
 as_aux_lemma=>
 go_enter Tryz.func87,Tryz.ntmps87
 as_aux_lemma=>
 go_wp2;clear Q bv
 go_loopw [] (λwr=>y8 ex B pb nb s kd o w je k fin C a R wr) (λwr=>DD pb nb s wr)
 case atStart=>exact y8.mk b9.1 ca.1 cb.1.symm (by rw[gY rfl];omega)
 case round=>
  as_aux_lemma=>
  obtain⟨q,M,bw,ks,is,a6,cy,bx,ai,a7,bA,bB⟩:=hrel;obtain⟨X,cc⟩:∃X:aA,X=wr:=⟨_,rfl⟩;subst cc;obtain⟨f,rfl⟩:∃f,bx=f+1:=⟨bx - 1,iE⟩;have a1:=af ai;have G:=af a7;have a2:=af bA.symm;have bE:=af bB;have bL:q<=s.size:=by have:=a7.fin;rw[kC]at this;exact this
  have cz:(q:Int)<=65536:=by have:=aa.1;omega
  have a3:X.cell? ⟨pb,0,ah⟩=ag (.string s):=(au ai.pv.at_ 0).trans rfl;have Q:X.cell? ⟨pb,1,ah⟩=ag (.int .i64 q):=(au ai.pv.at_ 1).trans rfl;have a8:=af λ(Z:aA) (cd:Below X.heap.size X Z)=>FQ (ai.pv.at_.grow cd)
  have ak:=nS (s:=s) (q:=q) b8.1;have ce:lI s q<256:=by unfold lI;split;exact UInt8.toNat_lt _;decide
  generalize lI s q=bM at a8 ak ce;clear ai a7 bA bB;by_cases D:s.data.toList[q]?=ag fin
  ·have cf:((bM:Int)!=(fin.toNat:Int))=ay:=by rw[bne_eq_false_iff_eq];exact ak.2 D
   have K:q<s.size:=(by have:=(aI.1 D).1;rw[kC]at this;exact this);have bN:¬(s.size:Int)<=(q:Int):=iE;have cA:decide ((q:Int)≥(s.size:Int))=ay:=iw bN;have cB:decide ((s.size:Int)<=(q:Int))=ay:=iw bN;have E:=af (a2.1.symm.trans (Ze (v:=jd s.data.toList k) D));have bO:((q:Int)+1)=((q+1:Nat):Int):=iE;have cg:=af bO;clear ak D bO
   as_aux_lemma=>
   go_upto_region 1 with fail
   refine Mix.mM (aF:=?_) iF iF iF iF iF ?_ ?_;rotate_left 1
   ·intro ρ i
    have d0:=λz:iR.Grow ρ=>iU (i.trans (z.h.mono i.size)) a3
    have ch:=λz:iR.Grow ρ=>iU (i.trans (z.h.mono i.size)) Q
    have a9:=af λz:iR.Grow ρ=>a8.1 z.w (i.trans (z.h.mono i.size))
    repeat(go_big_quiet_step((go_at_call 82;exact iR.Grow.calls ((a9.1 _).mono λe w' h=>⟨h.1,h.2.below _⟩))))
    refine aO ?_;exact rfl
   intro al am;have t:=af (a1.1.grow am);clear am a3 Q;have Q:al.cell? ⟨pb,1,ah⟩=ag (.int .i64 q):=(au t.1.pv.at_ 1).trans rfl;have bv:∀o,al.frozen? ⟨pb,o,ah⟩=ay:=λo=>aJ t.1.pv.at_ o
   as_aux_lemma=>
   go_wp2;go_end0;unfold xP;rw[E.1];exact⟨rfl,_,_,_,t.1.ps (PK.moved t.1.pv.at_ (Same.refl _)) (t.1.pv.at_.moved cg.1 (Same.refl _))⟩
  ·have cf:((bM:Int)!=(fin.toNat:Int))=aj:=by rw[bne_iff_ne];exact λe=>D (ak.1 e)
   clear ak
   as_aux_lemma=>
   go_upto_region 1 with fail
   refine Mix.mM (aF:=?_) iF iF iF iF iF ?_ ?_;rotate_left 1
   ·intro ρ i
    have d0:=λz:iR.Grow ρ=>iU (i.trans (z.h.mono i.size)) a3
    have ch:=λz:iR.Grow ρ=>iU (i.trans (z.h.mono i.size)) Q
    have a9:=af λz:iR.Grow ρ=>a8.1 z.w (i.trans (z.h.mono i.size))
    repeat(go_big_quiet_step((go_at_call 82;exact iR.Grow.calls ((a9.1 _).mono λe w' h=>⟨h.1,h.2.below _⟩))))
    refine aO ?_;exact rfl
   intro al am;have t:=af (a1.1.grow am);clear am a3 Q;obtain⟨an,ao,rfl⟩:=mW t.1.ir;obtain⟨m,hm⟩:=iC is.length;have bR:al.cell? ⟨nb,4,ah⟩=ag (.slice an m ao):=(au t.1.box 4).trans (by rw[<-hm];rfl);have bS:(m:Int)<=4096:=(by have:=G.1.is;have:=G.1.top;omega);by_cases H:is=[]
   case' pos=>
    have ap:¬0<(m:Int):=(by rw[<-hm,H];decide);have ba:¬0<m:=iE;have bb:decide ((m:Int)>0)=ay:=iw ap;have aq:(if is=[]then ag q else kG s.data.toList q 44)=ag q:=gY H;have bX:is.length=0:=(by rw[H];rfl);have I:=t;clear H hm
    go_upto_region 4 with fail
    clear bR ap ba bb bS;obtain⟨ar,bc⟩:=iD al;subst bc
    obtain⟨y,S,av,aw,aD⟩:∃y,II ex B pb nb s kd o w je y M bw ks is a6 (.slice an is.length ao) ar/\R=pg (jd s.data.toList k) s.data.toList fin C f y M ks is/\(q<=s.size/\(y=q+1\/(y=q/\is.length=0)))/\oD s.data.toList a C y M ks is:=
     ⟨_,I.1,a2.1.symm.trans (Mc (v:=jd s.data.toList k) D _ aq),⟨bL,.inr ⟨rfl,bX⟩⟩,G.1⟩
    have I:=af S;have g:=af aD;have T:=af av;have bd:=af (S.base ab.1 ac.1 ad.1);have J:=af aw;clear S av aw aD D aq;clear bX
   case' neg=>
    have ap:0<(m:Int):=by rw[<-hm];have:0<is.length:=aQ.2 H;omega
    have ba:0<m:=iE;have bb:decide ((m:Int)>0)=aj:=iq ap;by_cases L:s.data.toList[q]?=ag 44
    case neg=>
     have aE:∀h:q<s.size,s[q]≠44:=λh e=>L (by rw[nR h,e])
     have U:=af (Dt 44 t.1.pv.at_ aa.1 aE);have E:=af (a2.1.symm.trans (Zf (v:=jd s.data.toList k) D (by rw[gZ H];unfold kG;rw[gZ L])));clear L aE D H hm
     as_aux_lemma=>
     go_wp2_with(go_at_call 86;refine(U.1).mono ?_;rintro e w3 ⟨rfl,F⟩;have be:=af F;clear F)
     refine⟨rfl,?_⟩;unfold xP;rw[E.1];exact⟨rfl,(t.1.base ab.1 ac.1 ad.1).trans (be.1.below _)⟩
    have K:q<s.size:=(by have:=(aI.1 L).1;rw[kC]at this;exact this);have b0:s[q]'K=44:=by rw[nR K]at L;exact Option.some.inj L
    have aq:(if is=[]then ag q else kG s.data.toList q 44)=ag (q+1):=(by rw[gZ H];unfold kG;rw[gY L]);have U:=af (Aw 44 t.1.pv.at_ aa.1 K b0);have ci:PLift (oD s.data.toList a C (q+1) M ks is):=⟨⟨by rw[kC];omega,G.1.tree,G.1.at_,G.1.top,G.1.refs,G.1.ks,G.1.is⟩⟩;clear H hm L b0
    go_upto_region 4 with(go_at_call 86;refine(U.1).mono ?_;rintro e w3 ⟨rfl,aG,F⟩;have I:=af (t.1.ps F aG);clear aG F)
    clear bR ap ba bb bS;obtain⟨ar,bc⟩:=iD w3;subst bc
    obtain⟨y,S,av,aw,aD⟩:∃y,II ex B pb nb s kd o w je y M bw ks is a6 (.slice an is.length ao) ar/\R=pg (jd s.data.toList k) s.data.toList fin C f y M ks is/\(q<=s.size/\(y=q+1\/(y=q/\is.length=0)))/\oD s.data.toList a C y M ks is:=
     ⟨_,I.1,a2.1.symm.trans (Mc (v:=jd s.data.toList k) D _ aq),⟨bL,.inl rfl⟩,ci.1⟩
    have I:=af S;have g:=af aD;have T:=af av;have bd:=af (S.base ab.1 ac.1 ad.1);have J:=af aw;clear S av aw aD D aq
   all_goals
    cases C with
    |false=>
     obtain rfl:kd=9:=br.1;have cj:ar.cell? ⟨nb,0,ah⟩=ag (.int .i64 9):=(au I.1.box 0).trans rfl
     go_upto_region 7 with fail
     refine L9 (aF:=?_) _ _ _ _ _ _ _ _ (d+1) rfl iF iF iF iF rfl rfl rfl rfl rfl rfl ⟨rfl,rfl,rfl,rfl,rfl,rfl⟩ rfl iF iF iF iF iF iF iF I.1 a4.1 a5.1 g.1.tree g.1.top (by rw[<-kC];exact g.1.fin) (by have:=g.1.kl;have:=g.1.is;have:=g.1.top;omega) (by have:=g.1.is;have:=g.1.top;omega) ?_ ?_ ?_ rfl ?_ ?_ _ _ _ _ rfl rfl rfl ?_ ?_ ?_ ?_ ?_ ?_;rotate_left 1
     ·intro ρ i
      have b1:ρ.cell? ⟨nb,4,ah⟩=ag (.slice an is.length ao):=(au i 4).trans rfl;clear i;dsimp only[List.take]
      repeat(go_big_quiet_step(fail))
      apply aO;exact rfl
     ·intro W;go_simp<;>exact enters_of aT iF rfl _ _
     ·intro x W;go_simp
     iterate 2 · intro x u;rfl
     iterate 4 · intro x u v2;simp only[Act.put,ax,aB,aC];rfl
     ·intro j a' W aL aM
      have E:=af (T.1.trans (Zg (v:=jd s.data.toList k) j));clear j;refine⟨aL,?_⟩;unfold xP;rw[E.1];exact⟨rfl,bd.1.trans aM⟩
     intro l aR j u A n c W ck a0;have V:=af a0;have r:=af (uH _ k _ _ _ _ j g.1.fin g.1.tree);have cl:=af (T.1.trans (Zh (v:=jd s.data.toList k) l aR j));have bf:=af (Zn g.1 r.1);clear a0 j;simp only[Act.put,ax,aB,aC]
     as_aux_lemma=>
     go_wp2;go_roundw
     case rel=>exact y8.mk V.1 bf.1 cl.1 (by have cm:=r.1.pos;have cn:=bE.1;have co:=J.1;exact MC cm cn co r.1.fin)
     case measure=>exact Me a1.1 V.1 J.1.1 (MF J.1 r.1.pos) (MG J.1 r.1.pos) iH (by have:=r.1.fin;rw[kC]at this;exact this)
    |true=>
     obtain rfl:kd=10:=br.1;have cj:ar.cell? ⟨nb,0,ah⟩=ag (.int .i64 10):=(au I.1.box 0).trans rfl
     go_upto_region 5 with fail
     refine Zd (aF:=?_) _ _ _ _ _ _ _ _ (d+1) rfl iF iF iF iF rfl rfl rfl rfl rfl rfl ⟨rfl,rfl,rfl,rfl,rfl,rfl⟩ rfl iF iF iF iF iF iF iF I.1 a4.1 a5.1 g.1.tree g.1.top (by rw[<-kC];exact g.1.fin) (by have:=g.1.kl;have:=g.1.is;have:=g.1.top;omega) (by have:=g.1.is;have:=g.1.top;omega) ?_ ?_ ?_ rfl ?_ ?_ _ _ _ _ rfl rfl rfl ?_ ?_ ?_ ?_ ?_ ?_;rotate_left 1
     ·intro ρ i
      have b1:ρ.cell? ⟨nb,3,ah⟩=ag (a6):=(au i 3).trans rfl;clear i;dsimp only[List.take]
      repeat(go_big_quiet_step(fail))
      apply aO;exact rfl
     ·intro W;go_simp<;>exact enters_of aT iF rfl _ _
     ·intro x W;go_simp
     iterate 2 · intro x u;rfl
     iterate 4 · intro x u v2;simp only[Act.put,ax,aB,aC];rfl
     ·intro j a' W aL aM
      have E:=af (T.1.trans (Zi (v:=jd s.data.toList k) j));clear j;refine⟨aL,?_⟩;unfold xP;rw[E.1];exact⟨rfl,bd.1.trans aM⟩
     intro l aR j u A n c W ck a0;have bg:=af j;have r:=af (uH _ k _ _ _ _ j g.1.fin g.1.tree);have V:=af a0;have cC:l<=s.size:=(by have:=r.1.fin;rw[kC]at this;exact this);clear a0 j;simp only[Act.put,ax,aB,aC];by_cases O:s.data.toList[l]?=ag 61
     ·have K:l<s.size:=by have:=(aI.1 O).1;rw[kC]at this;exact this
      have b2:s[l]'K=61:=by rw[nR K]at O;exact Option.some.inj O
      have b3:PLift (l+1<=s.data.toList.length):=⟨by rw[kC];omega⟩;have b4:PLift (kG s.data.toList l 61=ag (l+1)):=⟨by unfold kG;rw[gY O]⟩;have U:=af (Aw 61 V.1.pv.at_ aa.1 K b2);clear O b2
      go_upto_region 7 with(go_at_call 86;refine(U.1).mono ?_;rintro e w3 ⟨rfl,aG,F⟩;have b5:=af (V.1.ps F aG);clear aG F)
      have cp:=af (b5.1.base ab.1 ac.1 ad.1)
      go_upto_region 7 with fail
      refine L9 (aF:=?_) _ _ _ _ _ _ _ _ (d+1) rfl iF iF iF iF rfl rfl rfl rfl rfl rfl ⟨rfl,rfl,rfl,rfl,rfl,rfl⟩ rfl iF iF iF iF iF iF iF b5.1 a4.1 a5.1 r.1.tree r.1.top (by have:=b3.1;rw[<-kC];omega) (by have:=g.1.kl;have:=g.1.is;have:=g.1.top;have:=r.1.top;simp;omega) (by have:=g.1.is;have:=g.1.top;omega) ?_ ?_ ?_ rfl ?_ ?_ _ _ _ _ rfl rfl rfl ?_ ?_ ?_ ?_ ?_ ?_;rotate_left 1
      ·intro ρ i
       have b1:ρ.cell? ⟨nb,4,ah⟩=ag (.slice an is.length ao):=(au i 4).trans rfl;clear i;dsimp only[List.take]
       repeat(go_big_quiet_step(fail))
       apply aO;exact rfl
      ·intro W;go_simp<;>exact enters_of aT iF rfl _ _
      ·intro x W;go_simp
      iterate 2 · intro x u;rfl
      iterate 4 · intro x u v2;simp only[Act.put,ax,aB,aC];rfl
      ·intro j a' W aL aM
       have E:=af (T.1.trans (Zk (v:=jd s.data.toList k) l (l+1) aR bg.1 b4.1 j));clear j;refine⟨aL,?_⟩;unfold xP;rw[E.1];exact⟨rfl,cp.1.trans aM⟩
      intro cq cr j cD cE cF cG cH cI b6;have b7:=af b6;have Y:=af (uH _ k _ _ _ _ j (by have:=b3.1;omega) r.1.tree);have cs:=af (T.1.trans (Zl (v:=jd s.data.toList k) l (l+1) cq aR cr bg.1 b4.1 j));have bf:=af (Zo g.1 r.1 Y.1);clear b6 j;simp only[Act.put,ax,aB,aC]
      as_aux_lemma=>
      go_wp2;go_roundw
      case rel=>exact y8.mk b7.1 bf.1 cs.1 (MC (aK r.1.pos (aK (aU _) Y.1.pos)) bE.1 J.1 Y.1.fin)
      case measure=>exact Me a1.1 b7.1 J.1.1 (MF J.1 (aK r.1.pos (aK (aU _) Y.1.pos))) (MG J.1 (aK r.1.pos (aK (aU _) Y.1.pos))) iH (by have:=Y.1.fin;rw[kC]at this;exact this)
     ·have aE:∀h:l<s.size,s[l]≠61:=λh e=>O (by rw[nR h,e])
      have U:=af (Dt 61 V.1.pv.at_ aa.1 aE);have ct:PLift (kG s.data.toList l 61=ah):=⟨by unfold kG;rw[gZ O]⟩;have E:=af (T.1.trans (Zj (v:=jd s.data.toList k) l aR bg.1 ct.1));clear O aE
      as_aux_lemma=>
      go_wp2_with(go_at_call 86;refine(U.1).mono ?_;rintro e w3 ⟨rfl,F⟩;have be:=af F;clear F)
      refine⟨rfl,?_⟩;unfold xP;rw[E.1];exact⟨rfl,(V.1.base ab.1 ac.1 ad.1).trans (be.1.below _)⟩
end
end Go.Proofs.YthcalnnipjflkaaGreatDoor
