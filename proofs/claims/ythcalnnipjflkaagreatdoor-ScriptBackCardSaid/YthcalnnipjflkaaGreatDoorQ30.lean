import Derived.Test.YthcalnnipjflkaaGreatDoorQ29
import Derived.ProofKit
import Derived.OpenShut
import Derived.Deep.Slices
import Derived.SevenTiedAt
import Derived.LaidMore
import Derived.LaidHandle
import Derived.MakeChecks
import Derived.Lib.LaidU8T
import Derived.PinnedBridge
import Derived.Stop.Joined
import Derived.Test.YthcalnnipjflkaaGreatDoorTie
import Derived.Test.YthcalnnipjflkaaGreatDoorCards
open Go.Proofs.Tryz renaming prog -> ae, underlying9 -> aB, checked -> aJ, underlying29 -> aK, underlying55 -> aN, underlying3 -> aO, f4 -> aS
open Option renaming some -> af, none -> aI
open Go.DataW renaming trod -> ag, trod_string -> ay, trod_int -> aQ, Trod -> aT, lit -> aU
open List renaming range -> ah, getElem?_eq_some_iff -> az, getElem?_eq_getElem -> aA
open Go renaming TypeId -> aj, Value -> au, DataW -> ax, World -> aC, MemPlace -> aH, trodAll_cons_mk -> aP
set_option linter.all false
set_option maxRecDepth 1000000
namespace Go.Proofs.YthcalnnipjflkaaGreatDoor
open Go.ChangeShapes Go.WideShapes Go.ChangeAt Go.RowKit
theorem ahP:∀M:List CM,(M.flatMap CM.cells).length=M.length*4
 |[]=>rfl
 |m::M=>by rw[List.flatMap_cons,List.length_append,ahP M,List.length_cons,Nat.add_mul];show 4+_=_;omega
section
variable {H:Type} {enc:aj×au->H} {w:aC} {base:Nat} {sp:Nat->Bool} {held:Bool}
theorem ahV {a:Addr}{v:au}(h:w.cell? (a.add 0)=af v):a=⟨a.block,a.off,aI⟩:=by
 obtain⟨b,o,s⟩:=a;have:s=aI:=by simpa[Addr.add]using World.cell?_spot h
 rw[this]
theorem ahQ {t e:aj}{X:Type}[Inhabited X](f:X->au)(k:Tryz.prog.underlying t=af (.slice e))(hc:Tryz.prog.cellsOf e=1)(l:∀n v y,ag enc ae w base sp held n e [v]=af y->∃x,v=f x)
  {fuel:Nat}{b:List au}{x:ax H×List aH}(h:ag enc ae w base sp held fuel t b=af x):∃(v:au) (L:List X),b=[v]/\Cj v L.length (L.map f) w/\L.length<=9223372036854775807:=by
 rcases Deep.open_slice1 k hc h with⟨rfl,-⟩|⟨a,len,cap,m,n,V,D,z,rfl,-,A,hm,o,-,hx⟩
 ·exact⟨_,[],rfl,⟨aI,0,rfl,λh=>absurd h (Nat.lt_irrefl 0)⟩,Nat.zero_le _⟩
 ·have B:len<=m:=by rw[o];split<;>omega
  obtain⟨S,hS⟩:=Deep.choose_lt (α:=X) (n:=len) (p:=λi x=>V i=f x) λi hi=>l _ _ _ (hx i iE).2
  have c:((ah len).map S).length=len:=iH
  refine⟨_,(ah len).map S,rfl,⟨af a,cap,by rw[c],λC=>?_⟩,by rw[c];unfold maxLen at hm;omega⟩;have hp:=ahV (hx 0 iE).1;refine⟨a.block,a.off,by rw[<-hp],λj u d=>?_⟩;rw[List.map_map]at d;obtain⟨q,r⟩:=az.1 d;have s:j<len:=by simpa using q
  have g:=(hx j iE).1;rw[hp,add_plain,hS j s]at g;rw[g,<-r];simp
theorem ahW {fuel:Nat}{e:List au}{x:ax H×List aH}(h:ag enc ae w base sp held fuel 47 e=af x):
  ∃m:CM,e=m.cells/\(Cj m.nv m.cx.ns.length (m.cx.ns.map Value.string) w/\Cj m.fv m.cx.fs.length (m.cx.fs.map (Value.int .i64)) w)/\m.cx.ns.length<=9223372036854775807/\m.cx.fs.length<=9223372036854775807:=by
 obtain⟨xs,n,_,rfl,g,r,hf⟩:=DataW.trod_struct Tryz.underlying47 h;rw[show Tryz.prog.cellsOf 47=4 by kernel_rfl]at g
 obtain⟨c,a,b,d,rfl⟩:∃c a b d,e=[c,a,b,d]:=by
  match e,g with
  |[c,a,b,d],_=>exact⟨c,a,b,d,rfl⟩
 have get:∀i,i<4->∃y,xs[i]?=af y:=λi hi=>⟨xs[i]'(by rw[r];exact hi),aA _⟩
 obtain⟨B,t⟩:=get 0 iG;obtain⟨C,e1⟩:=get 1 iG;obtain⟨D,u⟩:=get 2 iG;obtain⟨E,e3⟩:=get 3 iG;have g0:ag enc ae w base sp held n 3 (([c,a,b,d].drop 0).take (Tryz.prog.cellsOf 3))=xs[0]?:=hf 0 _ rfl;have g1:ag enc ae w base sp held n 35 (([c,a,b,d].drop 1).take (Tryz.prog.cellsOf 35))=xs[1]?:=hf 1 _ rfl;have g2:ag enc ae w base sp held n 36 (([c,a,b,d].drop 2).take (Tryz.prog.cellsOf 36))=xs[2]?:=hf 2 _ rfl;have f:ag enc ae w base sp held n 9 (([c,a,b,d].drop 3).take (Tryz.prog.cellsOf 9))=xs[3]?:=hf 3 _ rfl;have j:Tryz.prog.cellsOf 3=1:=iF
 have k:Tryz.prog.cellsOf 9=1:=iF
 rw[t,j]at g0;rw[e1,show Tryz.prog.cellsOf 35=1 by kernel_rfl]at g1;rw[u,show Tryz.prog.cellsOf 36=1 by kernel_rfl]at g2;rw[e3,k]at f;simp only[List.drop_succ_cons,List.drop_zero,List.take_succ_cons,List.take_zero]at g0 g1 g2 f;obtain⟨op,l,-,-⟩:=aQ aO g0;obtain⟨tx,o,-,-⟩:=ay aB f
 obtain⟨F,ns,p,r1,z⟩:=ahQ Value.string Tryz.underlying35 k (λn v y h=>by obtain⟨s,hs,-,-⟩:=ay aB h;exact⟨s,by simpa using hs⟩) g1
 obtain⟨G,fs,q,r2,A⟩:=ahQ (Value.int .i64) Tryz.underlying36 j (λn v y h=>by obtain⟨s,hs,-,-⟩:=aQ aO h;exact⟨s,by simpa using hs⟩) g2
 simp only[List.cons.injEq,and_true]at l p q o;subst l p q o;exact⟨⟨op,a,b,⟨ns,fs,tx⟩⟩,rfl,⟨r1,r2⟩,z,A⟩
instance:Inhabited CM:=⟨⟨0,.nilFunc,.nilFunc,⟨[],[],⟨#[]⟩⟩⟩⟩
theorem ahX {r:Reach}{y:Nat}{v:au}{d:ax H}{ps:List aH}(hv:Value.okWide ae w r y 29 v)(h:aT enc ae w base sp held 29 v d ps):
  ∃(l:Option Addr) (ca:Nat) (M:List CM),v=.slice l M.length ca/\xy (.slice l M.length ca) M w:=by
 obtain⟨G,f,q,rfl⟩:=okWide_slice aK hv;obtain⟨fuel,h⟩:=h;rcases Deep.open_slice aK h with⟨e,-⟩|⟨a,len,cap,m,n,D,I,e,-,J,hm,z,-,hx⟩
 ·simp[Value.cells]at e
  obtain⟨rfl,rfl,rfl⟩:=e;exact⟨aI,0,[],rfl,⟨aI,0,rfl,λh=>absurd h (Nat.lt_irrefl 0)⟩,(λ_ h=>by cases h),Nat.zero_le _,λ_ h=>by cases h⟩
 ·simp[Value.cells]at e
  obtain⟨rfl,rfl,rfl⟩:=e;have K:f<=m:=by rw[z];split<;>omega
  rw[show Tryz.prog.cellsOf 47=4 by kernel_rfl]at hx
  obtain⟨S,hS⟩:=Deep.choose_lt (α:=CM) (n:=f) (p:=λi c=>(∀k,k<4->w.cell? ((a.add (i*4)).add k)=c.cells[k]?)/\(Cj c.nv c.cx.ns.length (c.cx.ns.map Value.string) w/\Cj c.fv c.cx.fs.length (c.cx.fs.map (Value.int .i64)) w)/\c.cx.ns.length<=9223372036854775807/\c.cx.fs.length<=9223372036854775807) λi hi=>by obtain⟨L,e,A⟩:=hx i iE;obtain⟨c,rfl,B,C⟩:=ahW A;exact⟨c,(World.cells?_some e).2.2,B,C⟩
  have g:((ah f).map S).length=f:=iH
  have t:∀c∈(ah f).map S,∃i,i<f/\c=S i:=λc hc=>by obtain⟨i,hi,rfl⟩:=List.mem_map.1 hc;exact⟨i,by simpa using hi,rfl⟩
  refine⟨af a,q,(ah f).map S,by rw[g],⟨af a,q,rfl,λN=>?_⟩,(λc hc=>?_),by rw[g];unfold maxLen at hm;omega,λc hc=>?_⟩
  ·have E:=(hS 0 iE).1 0 iG
   obtain⟨b,o,s⟩:=a;have:s=aI:=(by simpa[Addr.add]using World.cell?_spot (E.trans rfl));subst this;refine⟨b,o,rfl,λj u x=>?_⟩;have F:=(az.1 x).1;rw[ahP,g]at F;have hi:j/4<f:=iE;have e:=cells_at ((ah f).map S) (j/4) (j%4) (S (j/4)) (by simp[hi]) iE;rw[show j/4*4+j%4=j by omega,x]at e;rw[e,<-(hS (j/4) hi).1 (j%4) iE,add_plain,add_plain,show o+j/4*4+j%4=o+j by omega]
  ·obtain⟨i,hi,rfl⟩:=t c hc
   exact(hS i hi).2.1
  ·obtain⟨i,hi,rfl⟩:=t c hc
   exact(hS i hi).2.2
end
end Go.Proofs.YthcalnnipjflkaaGreatDoor
namespace Go.Proofs.YthcalnnipjflkaaGreatDoor
open Go.ChangeShapes Go.WideShapes Go.ChangeAt Go.RowKit Go.Shelf
open Go.ChangeMaps (open_string shut_string)
section
variable {H:Type} {enc:aj×au->H} {P:Program} {w:aC} {base:Nat} {sp:Nat->Bool} {held:Bool}
theorem ZM {n:Nat}{t e:aj}{fuel:Nat}{a:List au}{ds:List (List UInt8)}{p:List aH}(g:P.underlying t=af (.array n e))(he:P.underlying e=af .string)(hce:P.cellsOf e=1)
  (h:ag enc P w base sp held fuel t a=af (.agg (ds.map λl=>.lit (.string l)),p)):∀i l,i<n->ds[i]?=af l->a[i]?=af (.string ⟨l.toArray⟩):=by
 obtain⟨xs,m,rfl,hx,u,v,j⟩:=DataW.trod_array g h
 have k:xs.map (·.1)=ds.map λl=>(aU (.string l):ax H):=by have:=ig Prod.fst hx;simpa using this.symm
 intro i l hi o;have d:=j i hi;obtain⟨b,f⟩:∃b,xs[i]?=af b:=⟨xs[i]' iE,aA iE⟩
 rw[f,hce,Nat.mul_one]at d;obtain⟨s,q,rfl,_⟩:=ay he d
 have r:a[i]?=af (.string s):=by have:=ig (·[0]?) q;simpa[List.getElem?_take,List.getElem?_drop]using this
 have c:(xs.map (·.1))[i]?=af (aU (.string s.data.toList):ax H):=by simp[f]
 rw[k]at c;simp only[List.getElem?_map,o,Option.map_some,Option.some.injEq,DataW.lit.injEq,Lit.string.injEq]at c;rw[r,c]
theorem ZN {t:aj}{b:Array (String×aj)}{fuel:Nat}{a:List au}{x:ax H×List aH}(c:P.underlying t=af (.interface b))(h:ag enc P w base sp false fuel t a=af x):∃v,a=[v]/\(v=.nilIface\/∃u p,v=.iface u p):=by
 cases fuel with
 |zero=>simp[ag]at h
 |succ n=>
  unfold ag at h;rw[c]at h
  match a,h with
  |[.nilIface],_=>exact⟨_,rfl,.inl rfl⟩
  |[.iface u p],_=>exact⟨_,rfl,.inr ⟨u,p,rfl⟩⟩
end
theorem own:ownKnob Tryz.prog.godebug=aI:=iF
theorem ZO:(Rows.laid_rosetta_script_formats:ax Unit)=.agg (((ah 9).map fmtS).map λl=>.lit (.string l)):=rfl
theorem ZP:(Rows.laid_internal_strconv_uint64pow10:ax Unit)=Lib.tabData .u64 Lib.pow10Tab:=iF
theorem ZQ:(Rows.laid_math_bits_deBruijn64tab:ax Unit)=Lib.tabData .u8 (vJ.map λn:Nat=>(n:Int)):=iF
theorem ML {W:aC}{n:String}{g:Nat}{t e:aj}{k:IntKind}{m:Nat}{zs:List Int}{ls:List (String×ax Unit)}(h:laidMet ae ls W)(hm:(n,Lib.tabData k zs)∈ls)
  (a:Tryz.prog.globalNamed n=af g)(b:(Tryz.prog.globals[g]?).map (·.type)=af t)(c:Tryz.prog.underlying t=af (.array m e))(he:Tryz.prog.underlying e=af (.int k))(d:Tryz.prog.cellsOf e=1)(f:Tryz.prog.cellsOf t=m):Lib.TabIs ae W n k zs:=by
 obtain⟨g',t',l,fuel,p,i,j,hv,hd⟩:=Lib.laidMet.reads h hm;obtain rfl:=Option.some.inj (a.symm.trans i);obtain rfl:=Option.some.inj (b.symm.trans j);unfold Lib.TabIs;rw[hv,<-Lib.cells_of_tab c he d f hd]
theorem MM {W:aC}{n:String}{g:Nat}{t:aj}{b:Array (String×aj)}{d:ax Unit}{ls:List (String×ax Unit)}(h:laidMet ae ls W)(hm:(n,d)∈ls)
  (a:Tryz.prog.globalNamed n=af g)(c:(Tryz.prog.globals[g]?).map (·.type)=af t)(e:Tryz.prog.underlying t=af (.interface b)):∃ev,W.cell? ⟨g,0,aI⟩=af ev/\(ev=.nilIface\/∃te pe,ev=.iface te pe):=by
 obtain⟨g',t',j,fuel,p,f,i,hv,hd⟩:=Lib.laidMet.reads h hm;obtain rfl:=Option.some.inj (a.symm.trans f);obtain rfl:=Option.some.inj (c.symm.trans i);obtain⟨v,hc,hi⟩:=ZN e hd;refine⟨v,?_,hi⟩;rw[World.var?_cell a hv 0,<-Array.getElem?_toList,hc]
 rfl
theorem ZR {W:aC}(h:laidMet ae Rows.scriptBackRow.laid W):Tabs W:=by
 have a:Lib.Utf8Tabs (Tryz.lays197_ren.g 3) (Tryz.lays197_ren.g 4) W:=
  utf8Tabs_of_readsT (ρ:=Tryz.lays197_ren) {Tryz.lays197 with} ⟨iF,iF,iF,iF,iF,iF,iF⟩
   (by rw[<-Pinned.utf8First_eq];exact Lib.laidMet.reads h (.tail _ (.tail _ (.tail _ (.tail _ (.tail _ (.tail _ (.tail _ (.head _))))))))) (by have e:Lib.acceptData=Rows.laid_unicode_utf8_acceptRanges:=iF;rw[e];exact Lib.laidMet.reads h (.tail _ (.tail _ (.tail _ (.head _)))))
 exact a
theorem ZT {W:aC}(h:laidMet ae Rows.scriptBackRow.laid W):nT W:=by
 refine⟨?_,?_,?_,?_⟩
 ·exact ML (g:=6) (t:=212) (e:=142) (m:=20) h (by rw[<-ZP];exact .tail _ (.tail _ (.head _))) iF iF iF iF iF iF
 ·exact MM (g:=4) h (.tail _ (.tail _ (.tail _ (.tail _ (.tail _ (.head _)))))) iF rfl aN
 ·exact MM (g:=5) h (.tail _ (.tail _ (.tail _ (.tail _ (.head _))))) iF rfl aN
 ·have c:Lib.TabIs ae W "math/bits.deBruijn64tab" .u8 (vJ.map λn:Nat=>(n:Int)):=ML (g:=8) (t:=262) (e:=5) (m:=64) h (by rw[<-ZQ];exact .tail _ (.head _)) iF iF iF iF iF iF
  intro k a;have b:vJ.length=64:=iF
  rw[c.cell (g:=8) iF k (by rw[List.length_map,b];exact a)];simp[List.getD,b,a]
theorem ZU {W:aC}(h:laidMet ae Rows.scriptBackRow.laid W):uC W:=by obtain⟨g,t,c,fuel,p,a,b,hv,hd⟩:=Lib.laidMet.reads h (n:= "rosetta/script.formats") (d:=Rows.laid_rosetta_script_formats) (.tail _ (.tail _ (.tail _ (.tail _ (.tail _ (.tail _ (.head _)))))));obtain rfl:=Option.some.inj ((show Tryz.prog.globalNamed "rosetta/script.formats" =af 0 by kernel_rfl).symm.trans a);obtain rfl:=Option.some.inj ((show(Tryz.prog.globals[0]?).map (·.type)=af 79 by kernel_rfl).symm.trans b);rw[ZO]at hd;intro i hi;rw[World.var?_cell a hv i,<-Array.getElem?_toList];exact ZM Tryz.underlying79 aB iF hd i (fmtS i) hi (by simp[hi])
theorem ZV {W:aC}(h:laidMet ae Rows.scriptBackRow.laid W):Env W:=⟨⟨ZT h,ZR h⟩,ZU h⟩
noncomputable def ww (os:Os):aC:=
 let w0:=World.doorLaid ae 77 os
 {w0 with heap:=w0.heap.modify 1 fun
  |.cells _ t a=>.cells (Lib.firstTab.map λz=>Value.int .u8 z).toArray t a
  |o=>o}
theorem ZW (os:Os)(args:Array au):laidMetH ae Rows.scriptBackRow.laid ((ww os).forCall (λ_ _=>0) ⟨#[],args,[]⟩).memory:=
 laidMetH_of_parts3 (fuel:=8) (laidMet_of_run' 8 iF iF) iF iF
theorem ahY (os:Os)(l:os.Started)(H:Type)(enc:aj×au->H):
  ReturnsInHanded {} aJ os 4 .any (λw args=>(Rows.scriptBackSpec.pre enc ae aS [] false w args/\laidMetH ae Rows.scriptBackRow.laid w)/\sizedMet enc ae aS (OpenSpec.ofChange Rows.scriptBackSpec) false w args)
   (Rows.scriptBackSpec.post enc ae aS false true false false):=by
 refine returnsInHanded_of_change_and (C:=aJ) (X:=λw _=>laidMetH ae Rows.scriptBackRow.laid w) (λ_ _ _ m h=>h.of_heap m) own l iF Tryz.func4
  (ChangeSpec.witness_shaped (enc:=enc) (C:=aJ) (os:=os) (X:=λw _=>laidMetH ae Rows.scriptBackRow.laid w) false (ww os) #[.slice aI 0 0] 8 rfl (World.shaped_of_RefB iF iF) iF iF iF (ZW os _)) ?_
 intro W base args ds gs before f g _ _ c _;have hval:∀(j:Nat) t v,Tryz.f4.params[j]?=af t->args[j]?=af v->Value.okWide ae W .any base t v:=f;have i:=g;have n:∀p∈before,p.block<W.heap.size:=λp hp=>i.lt p hp
 obtain⟨p,q,k,o,rfl,B,D⟩:=g;have hA:DataW.TrodAll enc ae W 0 (λ_=>true) true Tryz.f4.params.toList args.toList ds p:=k;rw[Tryz.params4]at hA hval;obtain⟨v0,E,d0,F,r,G,I,rfl,rfl,d,s⟩:=trodAll_cons hA;obtain⟨rfl,rfl,rfl⟩:=trodAll_nil s;obtain rfl:args=#[v0]:=by cases args;simp_all
 obtain⟨rfl,rfl⟩:=trodVars_none o;have u:∀W',Below W.heap.size W W'->aT enc ae W' 0 (λb=>decide (b<W.heap.size)) true 29 v0 d0 r:=λW' a=>Below.trod iF iF (of_decide_eq_true iF) d a (λx hx=>n x (by simp[hx]))
 obtain⟨y,ca,M,rfl,z⟩:=ahX (hval 0 29 v0 rfl rfl) d;rw[MakeChecks.laidMetH_plain _ _ _ iF]at c;have A:=ZV c;clear k f c d;refine(ahU y ca M W A z).mono λe W' ⟨he,a⟩=>?_
 subst he;exact⟨_,rfl,_,_,_,[],_,[],i,(aP (shut_bool Tryz.underlying4 _) trodAll_mk0),(aP (u W' a) trodAll_mk0),rfl,a.frame _,λh=>by cases h⟩
