import Derived.Test.YthcalnnipjflkaaGreatDoorP29
import Derived.SevenTiedAt
import Derived.LaidMore
import Derived.LaidHandle
import Derived.MakeChecks
import Derived.Lib.LaidU8T
import Derived.PinnedBridge
import Derived.ProofKit
import Derived.OpenShut
import Derived.Stop.Joined
import Derived.Test.YthcalnnipjflkaaGreatDoorTie
import Derived.Test.YthcalnnipjflkaaGreatDoorCards
open Go.Proofs.Tryz renaming prog -> ae, underlying9 -> ah, checked -> ax, underlying55 -> ay, f5 -> aB
open Option renaming some -> af
open Go renaming TypeId -> ag, DataW -> aj, World -> au, trodAll_cons_mk -> az, Value -> aA
set_option linter.all false
set_option maxRecDepth 1000000
namespace Go.Proofs.YthcalnnipjflkaaGreatDoor
open Go.ChangeShapes Go.WideShapes Go.ChangeAt Go.RowKit Go.Shelf
open Go.ChangeMaps (open_string shut_string)
section
variable {H:Type} {enc:ag×aA->H} {P:Program} {w:au} {base:Nat} {sp:Nat->Bool} {held:Bool}
theorem ZM {n:Nat}{t e:ag}{fuel:Nat}{a:List aA}{ds:List (List UInt8)}{p:List MemPlace}(g:P.underlying t=af (.array n e))(he:P.underlying e=af .string)(hce:P.cellsOf e=1)
  (h:DataW.trod enc P w base sp held fuel t a=af (.agg (ds.map λl=>.lit (.string l)),p)):∀i l,i<n->ds[i]?=af l->a[i]?=af (.string ⟨l.toArray⟩):=by
 obtain⟨xs,m,rfl,hx,u,v,j⟩:=DataW.trod_array g h
 have k:xs.map (·.1)=ds.map λl=>(DataW.lit (.string l):aj H):=by have:=ig Prod.fst hx;simpa using this.symm
 intro i l hi o;have d:=j i hi;obtain⟨b,f⟩:∃b,xs[i]?=af b:=⟨xs[i]' iE,List.getElem?_eq_getElem iE⟩
 rw[f,hce,Nat.mul_one]at d;obtain⟨s,q,rfl,_⟩:=DataW.trod_string he d
 have r:a[i]?=af (.string s):=by have:=ig (·[0]?) q;simpa[List.getElem?_take,List.getElem?_drop]using this
 have c:(xs.map (·.1))[i]?=af (DataW.lit (.string s.data.toList):aj H):=by simp[f]
 rw[k]at c;simp only[List.getElem?_map,o,Option.map_some,Option.some.injEq,DataW.lit.injEq,Lit.string.injEq]at c;rw[r,c]
theorem ZN {t:ag}{b:Array (String×ag)}{fuel:Nat}{a:List aA}{x:aj H×List MemPlace}(c:P.underlying t=af (.interface b))(h:DataW.trod enc P w base sp false fuel t a=af x):∃v,a=[v]/\(v=.nilIface\/∃u p,v=.iface u p):=by
 cases fuel with
 |zero=>simp[DataW.trod]at h
 |succ n=>
  unfold DataW.trod at h;rw[c]at h
  match a,h with
  |[.nilIface],_=>exact⟨_,rfl,.inl rfl⟩
  |[.iface u p],_=>exact⟨_,rfl,.inr ⟨u,p,rfl⟩⟩
end
theorem own:ownKnob Tryz.prog.godebug=none:=iF
theorem ZO:(Rows.laid_rosetta_script_formats:aj Unit)=.agg (((List.range 9).map fmtS).map λl=>.lit (.string l)):=rfl
theorem ZP:(Rows.laid_internal_strconv_uint64pow10:aj Unit)=Lib.tabData .u64 Lib.pow10Tab:=iF
theorem ZQ:(Rows.laid_math_bits_deBruijn64tab:aj Unit)=Lib.tabData .u8 (vJ.map λn:Nat=>(n:Int)):=iF
theorem ML {W:au}{n:String}{g:Nat}{t e:ag}{k:IntKind}{m:Nat}{zs:List Int}{ls:List (String×aj Unit)}(h:laidMet ae ls W)(hm:(n,Lib.tabData k zs)∈ls)
  (a:Tryz.prog.globalNamed n=af g)(b:(Tryz.prog.globals[g]?).map (·.type)=af t)(c:Tryz.prog.underlying t=af (.array m e))(he:Tryz.prog.underlying e=af (.int k))(d:Tryz.prog.cellsOf e=1)(f:Tryz.prog.cellsOf t=m):Lib.TabIs ae W n k zs:=by
 obtain⟨g',t',l,fuel,p,i,j,hv,hd⟩:=Lib.laidMet.reads h hm;obtain rfl:=Option.some.inj (a.symm.trans i);obtain rfl:=Option.some.inj (b.symm.trans j);unfold Lib.TabIs;rw[hv,<-Lib.cells_of_tab c he d f hd]
theorem MM {W:au}{n:String}{g:Nat}{t:ag}{b:Array (String×ag)}{d:aj Unit}{ls:List (String×aj Unit)}(h:laidMet ae ls W)(hm:(n,d)∈ls)
  (a:Tryz.prog.globalNamed n=af g)(c:(Tryz.prog.globals[g]?).map (·.type)=af t)(e:Tryz.prog.underlying t=af (.interface b)):∃ev,W.cell? ⟨g,0,none⟩=af ev/\(ev=.nilIface\/∃te pe,ev=.iface te pe):=by
 obtain⟨g',t',j,fuel,p,f,i,hv,hd⟩:=Lib.laidMet.reads h hm;obtain rfl:=Option.some.inj (a.symm.trans f);obtain rfl:=Option.some.inj (c.symm.trans i);obtain⟨v,hc,hi⟩:=ZN e hd;refine⟨v,?_,hi⟩;rw[World.var?_cell a hv 0,<-Array.getElem?_toList,hc]
 rfl
theorem ZR {W:au}(h:laidMet ae Rows.scriptSettlesRow.laid W):Tabs W:=by
 have a:Lib.Utf8Tabs (Tryz.lays197_ren.g 3) (Tryz.lays197_ren.g 4) W:=
  utf8Tabs_of_readsT (ρ:=Tryz.lays197_ren) {Tryz.lays197 with} ⟨iF,iF,iF,iF,iF,iF,iF⟩
   (by rw[<-Pinned.utf8First_eq];exact Lib.laidMet.reads h (.tail _ (.tail _ (.tail _ (.tail _ (.tail _ (.tail _ (.tail _ (.head _))))))))) (by have e:Lib.acceptData=Rows.laid_unicode_utf8_acceptRanges:=iF;rw[e];exact Lib.laidMet.reads h (.tail _ (.tail _ (.tail _ (.head _)))))
 exact a
theorem ZT {W:au}(h:laidMet ae Rows.scriptSettlesRow.laid W):nT W:=by
 refine⟨?_,?_,?_,?_⟩
 ·exact ML (g:=6) (t:=212) (e:=142) (m:=20) h (by rw[<-ZP];exact .tail _ (.tail _ (.head _))) iF iF iF iF iF iF
 ·exact MM (g:=4) h (.tail _ (.tail _ (.tail _ (.tail _ (.tail _ (.head _)))))) iF rfl ay
 ·exact MM (g:=5) h (.tail _ (.tail _ (.tail _ (.tail _ (.head _))))) iF rfl ay
 ·have c:Lib.TabIs ae W "math/bits.deBruijn64tab" .u8 (vJ.map λn:Nat=>(n:Int)):=ML (g:=8) (t:=262) (e:=5) (m:=64) h (by rw[<-ZQ];exact .tail _ (.head _)) iF iF iF iF iF iF
  intro k a;have b:vJ.length=64:=iF
  rw[c.cell (g:=8) iF k (by rw[List.length_map,b];exact a)];simp[List.getD,b,a]
theorem ZU {W:au}(h:laidMet ae Rows.scriptSettlesRow.laid W):uC W:=by obtain⟨g,t,c,fuel,p,a,b,hv,hd⟩:=Lib.laidMet.reads h (n:= "rosetta/script.formats") (d:=Rows.laid_rosetta_script_formats) (.tail _ (.tail _ (.tail _ (.tail _ (.tail _ (.tail _ (.head _)))))));obtain rfl:=Option.some.inj ((show Tryz.prog.globalNamed "rosetta/script.formats" =af 0 by kernel_rfl).symm.trans a);obtain rfl:=Option.some.inj ((show(Tryz.prog.globals[0]?).map (·.type)=af 79 by kernel_rfl).symm.trans b);rw[ZO]at hd;intro i hi;rw[World.var?_cell a hv i,<-Array.getElem?_toList];exact ZM Tryz.underlying79 ah iF hd i (fmtS i) hi (by simp[hi])
theorem ZV {W:au}(h:laidMet ae Rows.scriptSettlesRow.laid W):Env W:=⟨⟨ZT h,ZR h⟩,ZU h⟩
noncomputable def ww (os:Os):au:=
 let w0:=World.doorLaid ae 77 os
 {w0 with heap:=w0.heap.modify 1 fun
  |.cells _ t a=>.cells (Lib.firstTab.map λz=>Value.int .u8 z).toArray t a
  |o=>o}
theorem ZW (os:Os)(args:Array aA):laidMetH ae Rows.scriptSettlesRow.laid ((ww os).forCall (λ_ _=>0) ⟨#[],args,[]⟩).memory:=
 laidMetH_of_parts3 (fuel:=8) (laidMet_of_run' 8 iF iF) iF iF
theorem ahC (os:Os)(f:os.Started)(H:Type)(enc:ag×aA->H):
  ReturnsInHanded {} ax os 5 .any (λw args=>(Rows.scriptSettlesSpec.pre enc ae aB [] false w args/\laidMetH ae Rows.scriptSettlesRow.laid w)/\sizedMet enc ae aB (OpenSpec.ofChange Rows.scriptSettlesSpec) false w args)
   (Rows.scriptSettlesSpec.post enc ae aB false true false false):=by
 refine returnsInHanded_of_change_and (C:=ax) (X:=λw _=>laidMetH ae Rows.scriptSettlesRow.laid w) (λ_ _ _ g h=>h.of_heap g) own f iF Tryz.func5
  (ChangeSpec.witness_shaped (enc:=enc) (C:=ax) (os:=os) (X:=λw _=>laidMetH ae Rows.scriptSettlesRow.laid w) false (ww os) #[.string ⟨#[]⟩] 8 rfl (World.shaped_of_RefB iF iF) iF iF iF (ZW os _)) ?_
 intro W base args ds gs before b c _ _ a _;have hval:∀(j:Nat) t v,Tryz.f5.params[j]?=af t->args[j]?=af v->Value.okWide ae W .any base t v:=b;have i:=c;obtain⟨p,q,d,k,rfl,r,u⟩:=c;have hA:DataW.TrodAll enc ae W 0 (λ_=>true) true Tryz.f5.params.toList args.toList ds p:=d;rw[Tryz.params5]at hA hval;obtain⟨v0,x,d0,y,z,A,B,rfl,rfl,l,m⟩:=trodAll_cons hA;obtain⟨rfl,rfl,rfl⟩:=trodAll_nil m;obtain rfl:args=#[v0]:=by cases args;simp_all
 obtain⟨rfl,rfl⟩:=trodVars_none k;obtain⟨s,rfl,rfl,rfl,ws⟩:=open_string ah (hval 0 9 v0 rfl rfl) l;rw[MakeChecks.laidMetH_plain _ _ _ iF]at a;have n:=ZV a;clear d b a;refine(ahB s W n ws).mono λe W' ⟨he,o⟩=>?_
 subst he;exact⟨_,rfl,_,_,_,[],_,[],i,(az (shut_bool Tryz.underlying4 _) trodAll_mk0),(az (shut_string ah ws) trodAll_mk0),rfl,o.frame _,λh=>by cases h⟩
