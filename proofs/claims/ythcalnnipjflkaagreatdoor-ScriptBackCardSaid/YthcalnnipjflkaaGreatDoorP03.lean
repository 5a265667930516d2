import Derived.Shelf.Strings.Builder1
import Derived.Shelf.Strings.Builder2
import Derived.Shelf.Strings.Trim
import Derived.Shelf.Small.Utf8
import Derived.Shelf.Small.Bits
import Derived.Shelf.Small.Strs
import Derived.Shelf.Small.Wraps
import Derived.Shelf.Strings.BuilderF
import Derived.Shelf.Strings.BuilderK
import Derived.Shelf.Strconv.Atoi
import Derived.Shelf.Strconv.Itoa0
import Derived.Shelf.Strconv.Itoa1
import Derived.Shelf.LaysM
import Derived.Shelf.Strconv.Itoa2
import Derived.Shelf.Strconv.Itoa3
import Derived.Shelf.Strconv.AtoiErrFast
import Derived.Shelf.Strconv.ParseIntEmpty
import Derived.Shelf.Strconv.AtoiFail
import Derived.Shelf.Strconv.Clone
import Derived.Shelf.Strconv.SyntaxError
import Derived.Shelf.LaysC
import Derived.Shelf.Strconv.ToError
import Derived.Shelf.Strconv.Lower
import Derived.Shelf.Strconv.ParseUint10
import Derived.Shelf.Strconv.ParseUint10Empty
import Derived.Shelf.Strconv.ParseUint10Any
import Derived.Shelf.Strconv.ParseInt10
import Derived.Shelf.Strconv.AtoiLong
import Derived.Shelf.Strconv.AtoiInnerAll
import Derived.Shelf.Strconv.RangeError
import Derived.Shelf.Strconv.ToErrorRange
import Derived.Shelf.Strconv.AtoiAll
import Derived.Shelf.Strconv.ParseUint10b64
import Derived.Shelf.Strings.Search1
import Derived.Shelf.Strings.Search2
import Derived.Shelf.Strings.Search3
import Derived.Shelf.Strings.Cut
import Derived.Shelf.Strings.Shaped
import Derived.Shelf.Strings.Prefix
import Derived.Shelf.Strings.Runes
import Derived.Shelf.Strings.IndexAny
import Derived.Shelf.Strings.AsciiSet
import Derived.Shelf.Strings.IndexAnyAll
import Derived.Shelf.Bits.Mul64
import Derived.Shelf.Strings.Repeat
import Derived.Shelf.Unicode.DecodeSlow
import Derived.Shelf.Unicode.DecodeAny
import Derived.Ground.SlsfProg
import Derived.Shelf.SlSortCmp.Insertion
import Derived.WalkKit
import Derived.WalkSpells
import Derived.Lib.Hide
import Derived.Lib.AppendStr
import Derived.Laws.IdiomStrings
import Derived.WalkLawsBesides
import Derived.BigQuiet
import Derived.Deep.QuietTactic
import Derived.IntWalk
import Derived.Laws.Closers25b
import Derived.Laws.Externs
import Derived.Laws.EntriesVeiled
import Derived.Outline
import Derived.Maps.RangeWalk
import Derived.Maps.OwnSet
import Derived.Carry
import Derived.Lib.Bytealg
import Derived.Lib.Builder
import Derived.Test.YthcalnnipjflkaaGreatDoorH
import Derived.Test.YthcalnnipjflkaaGreatDoorProg
import Derived.Test.YthcalnnipjflkaaGreatDoorRows
open Go.Proofs.Tryz renaming prog -> ae, underlying9 -> aV, underlying49 -> aY, underlying48 -> bH, underlying87 -> bZ, underlying5 -> dh, ntmps118 -> dC, ntmps32 -> dF, ntmps30 -> dI, func118 -> dK, func32 -> dL, func30 -> dM
open Go.Lib renaming hid -> af, cell_of_heap -> aA, alloc_old -> aB, IsBuilder -> aZ, byteCells -> bD, indexByte -> bF, Utf8Tabs -> bI, atoiAll -> bP, byteCells_length -> bU, frozen_of_heap -> bY, byteCells_append -> cZ, trimPrefix -> dm, bytesWorld -> dn, indexByte_some -> dw, pow10Tab -> dD, decodeGo -> dE, indexByte_ge -> dH, bitLen -> dO, TabIs -> dP
open Bool renaming false -> ag, true -> ay, and_assoc -> bC
open Option renaming some -> ah, none -> aj, map_eq_some_iff -> bQ
open Go renaming World -> au, Calls -> aC, Value -> aH, heap_alloc_new -> aP, DataW -> bJ, Oper -> bV, MemPlace -> di, Operand -> dN
open Go.Shelf renaming Ren -> ax
open List renaming getElem?_eq_getElem -> az, take_succ_eq_append_getElem -> aI, getD_eq_getElem?_getD -> aN, take_length -> aQ, getElem_mem -> aW, all_append -> bK, length_append -> bW, foldl_append -> cu, mem_cons -> dA
open Nat renaming not_lt_zero -> aJ, le_refl -> aO, zero_le -> aX, le_trans -> bu, add_assoc -> dB, add_comm -> dJ
open Array renaming getElem?_eq_some_iff -> aK, getElem?_modify -> bT
open Int renaming eq_ofNat_of_zero_le -> aS, lt_or_le -> dG
open Go.World renaming block_lt_of_cell? -> aT, grownBy_alloc -> bz, setCell -> bG
open Go.Value renaming bool -> aU, int -> dQ
open Go.RowKit.Below renaming refl -> bn
set_option linter.all false
set_option maxHeartbeats 4000000
set_option maxRecDepth 100000
namespace Go.Proofs
open Go.Shelf
def Tryz.afu:ax:=⟨λ|170=>18|n=>n,λ|70=>48|3=>3|0=>0|72=>51|37=>49|5=>5|n=>n,λ|n=>n⟩
theorem Tryz.lays170:Go.Proofs.Lays.n170 ae Tryz.afu:=by constructor<;>first|kernel_rfl|(intros;rfl)|decide
open Go.RowKit
theorem Tryz.Builder_Len (B b:Nat)(a:List aH)(w:au)(h:aZ 51 5 B b a w):
 aC ae 18 #[.pointer (ah ⟨b,0,aj⟩)] w λe w'=>e=.returned (.int .i64 a.length)/\w'=w:=Any.Builder_Len Tryz.lays170 B b a w h
def Tryz.lays169_ren:ax:=⟨λ|169=>19|n=>n,λ|70=>48|9=>9|0=>0|72=>51|37=>49|127=>77|3=>3|5=>5|n=>n,λ|n=>n⟩
theorem Tryz.lays169:Go.Proofs.Lays.n169 ae Tryz.lays169_ren:=by constructor<;>first|kernel_rfl|(intros;rfl)|decide
theorem Tryz.Builder_Extra_169:Builder.Extra ae Tryz.lays169_ren:=by constructor<;>first|kernel_rfl|(intros;rfl)|decide|(constructor<;>first|kernel_rfl|(intros;rfl)|decide|(constructor<;>first|kernel_rfl|(intros;rfl)|decide))
open Go.RowKit
theorem Tryz.Builder_String_any (B b:Nat)(l:List UInt8)(w:au)(h:aZ 51 5 B b (bD l) w)(a:B<=w.heap.size):
 aC ae 19 #[.pointer (ah ⟨b,0,aj⟩)] w λe w'=>e=.returned (.string ⟨l.toArray⟩)/\Below B w w':=Any.Builder_String_any Tryz.lays169 Tryz.Builder_Extra_169 B b l w h a
def Tryz.MN:ax:=⟨λ|125=>124|128=>146|129=>147|n=>n,λ|46=>90|3=>3|51=>106|53=>142|4=>4|5=>5|9=>9|n=>n,λ|n=>n⟩
theorem Tryz.lays125:Go.Proofs.Lays.n125 ae Tryz.MN:=by constructor<;>first|kernel_rfl|(intros;rfl)|decide
theorem Tryz.bits_Len (x:Int)(w:au)(a:0<=x)(b:x<=18446744073709551615):
 aC ae 124 #[.int .u64 x] w λe w'=>e=.returned (.int .i64 (dO x.toNat))/\w'=w:=Any.bits_Len Tryz.lays125 x w a b
def Tryz.MO:ax:=⟨λ|106=>169|213=>193|265=>210|n=>n,λ|9=>9|3=>3|n=>n,λ|n=>n⟩
theorem Tryz.MP:Go.Proofs.Lays.n106 ae Tryz.MO:=by constructor<;>first|kernel_rfl|(intros;rfl)|decide
open Go.RowKit
theorem Tryz.strings_Compare (a b:ByteArray)(w:au):
 aC ae 169 #[.string a,.string b] w λe w'=>e=.returned (.int .i64 (Lib.compareBytes a.data.toList b.data.toList))/\w'=w:=Any.strings_Compare Tryz.MP a b w
def Tryz.MQ:ax:=⟨λ|137=>47|217=>43|266=>49|n=>n,λ|9=>9|5=>5|3=>3|n=>n,λ|n=>n⟩
theorem Tryz.lays137:Go.Proofs.Lays.n137 ae Tryz.MQ:=by constructor<;>first|kernel_rfl|(intros;rfl)|decide
open Go.RowKit
theorem Tryz.strings_IndexByte (s:ByteArray)(c:Int)(w:au):
 aC ae 47 #[.string s,.int .u8 c] w λe w'=>e=.returned (.int .i64 (bF s.data.toList c.toNat.toUInt8))/\w'=w:=Any.strings_IndexByte Tryz.lays137 s c w
def Tryz.MR:ax:=⟨λ|103=>51|210=>54|206=>60|n=>n,λ|9=>9|4=>4|24=>52|3=>3|n=>n,λ|n=>n⟩
theorem Tryz.MS:Go.Proofs.Lays.n103 ae Tryz.MR:=by constructor<;>first|kernel_rfl|(intros;rfl)|decide
open Go.RowKit
theorem Tryz.strings_CutPrefix (s p:ByteArray)(w:au):
 aC ae 51 #[.string s,.string p] w λe w'=>e=.returned (.tuple #[.string ⟨(dm s.data.toList p.data.toList).toArray⟩,.bool (Lib.hasPrefix s.data.toList p.data.toList)])/\w'=w:=Any.strings_CutPrefix Tryz.MS s p w
def Tryz.MV:ax:=⟨λ|104=>65|211=>77|207=>94|n=>n,λ|9=>9|4=>4|24=>52|3=>3|n=>n,λ|n=>n⟩
theorem Tryz.MW:Go.Proofs.Lays.n104 ae Tryz.MV:=by constructor<;>first|kernel_rfl|(intros;rfl)|decide
open Go.RowKit
theorem Tryz.strings_CutSuffix (s p:ByteArray)(w:au)(hs:s.size<=9223372036854775807):
 aC ae 65 #[.string s,.string p] w λe w'=>e=.returned (.tuple #[.string ⟨(Lib.trimSuffix s.data.toList p.data.toList).toArray⟩,.bool (Lib.hasSuffix s.data.toList p.data.toList)])/\w'=w:=Any.strings_CutSuffix Tryz.MW s p w hs
def Tryz.MX:ax:=⟨λ|172=>55|244=>61|245=>62|247=>66|279=>67|280=>68|281=>69|282=>70|287=>78|316=>79|171=>81|205=>80|321=>95|322=>96|243=>97|246=>112|283=>126|284=>127|285=>128|286=>129|129=>147|317=>149|318=>150|319=>151|320=>152|337=>170|338=>171|n=>n,λ|9=>9|3=>3|75=>55|76=>56|4=>4|5=>5|167=>125|37=>49|0=>0|85=>126|2=>2|168=>128|53=>142|175=>143|46=>90|210=>146|127=>77|145=>166|143=>164|21=>21|171=>194|173=>197|212=>212|51=>106|20=>20|213=>213|232=>261|233=>262|80=>59|n=>n,λ|15=>4|16=>5|17=>6|18=>7|19=>8|n=>n⟩
theorem Tryz.lays172:Go.Proofs.Lays.n172 ae Tryz.MX:=by constructor<;>first|kernel_rfl|(intros;rfl)|decide
open Go.RowKit
theorem Tryz.strconv_Atoi (s:ByteArray)(n:Int)(a:s.size<=18)(h:Lib.atoi s.data.toList=ah n)(w:au):
 aC ae 55 #[.string s] w λe w'=>e=.returned (.tuple #[.int .i64 n,.nilIface])/\∃t,w'=dn w 5 t:=Any.strconv_Atoi Tryz.lays172 s n a h w
def Tryz.MZ:ax:=⟨λ|129=>147|n=>n,λ|53=>142|3=>3|4=>4|46=>90|5=>5|9=>9|n=>n,λ|n=>n⟩
theorem Tryz.lays129:Go.Proofs.Lays.n129 ae Tryz.MZ:=by constructor<;>first|kernel_rfl|(intros;rfl)|decide
theorem Tryz.bits_Len64 (x:Int)(w:au)(a:0<=x)(b:x<=18446744073709551615):
 aC ae 147 #[.int .u64 x] w λe w'=>e=.returned (.int .i64 (dO x.toNat))/\w'=w:=Any.bits_Len64 Tryz.lays129 x w a b
def Tryz.Na:ax:=⟨λ|171=>81|243=>97|246=>112|283=>126|284=>127|285=>128|286=>129|129=>147|317=>149|318=>150|319=>151|320=>152|337=>170|338=>171|n=>n,λ|3=>3|9=>9|2=>2|4=>4|171=>194|0=>0|53=>142|37=>49|5=>5|173=>197|212=>212|51=>106|20=>20|213=>213|46=>90|232=>261|233=>262|n=>n,λ|17=>6|18=>7|19=>8|n=>n⟩
theorem Tryz.laysM171:Go.Proofs.LaysM.n171 ae Tryz.Na:=by constructor<;>first|kernel_rfl|(intros;rfl)|decide|(constructor<;>first|kernel_rfl|(intros;rfl)|decide|(constructor<;>first|kernel_rfl|(intros;rfl)|decide))
open Go.RowKit Go.Sort Go.Lib
theorem Tryz.strconv_Itoa (n:Int)(a: -9223372036854775808<=n)(b:n<=9223372036854775807)(w:au)(c:dP ae w "internal/strconv.uint64pow10" .u64 dD):
 aC ae 81 #[.int .i64 n] w λe w'=>e=.returned (.string ⟨(Lib.itoa n).toArray⟩)/\∃k os,w'=grow (w.drewN k) os:=Any.strconv_Itoa Tryz.laysM171 n a b w c
def Tryz.Nb:ax:=⟨λ|219=>39|217=>43|225=>44|224=>45|267=>46|266=>49|314=>50|n=>n,λ|9=>9|3=>3|4=>4|5=>5|46=>90|146=>107|51=>106|n=>n,λ|1=>3|n=>n⟩
theorem Tryz.lays219:Go.Proofs.Lays.n219 ae Tryz.Nb:=by constructor<;>first|kernel_rfl|(intros;rfl)|decide
open Go.RowKit Go.Lib
theorem Tryz.stringslite_Index_one (s:ByteArray)(c:UInt8)(w:au):
 aC ae 39 #[.string s,.string ⟨#[c]⟩] w λe w'=>e=.returned (.int .i64 (bF s.data.toList c))/\w'=w:=Any.stringslite_Index_one Tryz.lays219 s c w
def Tryz.Nh:ax:=⟨λ|144=>100|143=>117|219=>39|217=>43|225=>44|224=>45|267=>46|266=>49|314=>50|n=>n,λ|9=>9|4=>4|3=>3|5=>5|46=>90|146=>107|51=>106|n=>n,λ|1=>3|n=>n⟩
theorem Tryz.lays144:Go.Proofs.Lays.n144 ae Tryz.Nh:=by constructor<;>first|kernel_rfl|(intros;rfl)|decide
open Go.RowKit Go.Lib
theorem Tryz.strings_Contains_one (s:ByteArray)(c:UInt8)(w:au):
 aC ae 100 #[.string s,.string ⟨#[c]⟩] w λe w'=>e=.returned (.bool (decide (0<=bF s.data.toList c)))/\w'=w:=Any.strings_Contains_one Tryz.lays144 s c w
def Tryz.lays99_ren:ax:=⟨λ|99=>224|206=>60|n=>n,λ|9=>9|4=>4|3=>3|n=>n,λ|n=>n⟩
open Go.RowKit Go.Lib
def Tryz.lays101_ren:ax:=⟨λ|101=>173|208=>194|206=>60|n=>n,λ|9=>9|4=>4|3=>3|n=>n,λ|n=>n⟩
theorem Tryz.lays101:Go.Proofs.Lays.n101 ae Tryz.lays101_ren:=by constructor<;>first|kernel_rfl|(intros;rfl)|decide
open Go.RowKit Go.Lib
theorem Tryz.strings_TrimPrefix (s p:ByteArray)(w:au):
 aC ae 173 #[.string s,.string p] w λe w'=>e=.returned (.string ⟨(dm s.data.toList p.data.toList).toArray⟩)/\w'=w:=Any.strings_TrimPrefix Tryz.lays101 s p w
def Tryz.lays197_ren:ax:=⟨λ|197=>21|260=>33|n=>n,λ|9=>9|21=>21|3=>3|4=>4|5=>5|105=>61|119=>89|0=>0|46=>90|139=>93|138=>92|n=>n,λ|3=>1|4=>2|n=>n⟩
theorem Tryz.lays197:Go.Proofs.Lays.n197 ae Tryz.lays197_ren:=by constructor<;>first|kernel_rfl|(intros;rfl)|decide
open Go.RowKit Go.Lib
theorem Tryz.utf8_DecodeRuneInString (s:ByteArray)(w:au)(a:bI 1 2 w):
 aC ae 21 #[.string s] w λe w'=>e=.returned (.tuple #[.int .i32 (dE s).1,.int .i64 (dE s).2])/\Below w.heap.size w w':=Any.utf8_DecodeRuneInString Tryz.lays197 s w a
def Tryz.Ol:ax:=⟨λ|162=>207|232=>219|227=>115|234=>220|236=>221|228=>116|271=>226|151=>227|120=>231|197=>21|152=>113|260=>33|137=>47|119=>130|224=>45|225=>44|217=>43|266=>49|n=>n,λ|9=>9|4=>4|3=>3|5=>5|117=>181|116=>180|0=>0|124=>200|21=>21|105=>61|46=>90|119=>89|139=>93|138=>92|n=>n,λ|3=>1|4=>2|n=>n⟩
theorem Tryz.lays162:Go.Proofs.Lays.n162 ae Tryz.Ol:=by constructor<;>first|kernel_rfl|(intros;rfl)|decide
open Go.RowKit
theorem Tryz.strings_TrimRight_one (s:ByteArray)(c:UInt8)(hc:c.toNat<128)(w:au)(hs:s.size<=9223372036854775807):
 aC ae 207 #[.string s,.string ⟨#[c]⟩] w λe w'=>e=.returned (.string ⟨(Lib.trimRightB s.data.toList c).toArray⟩)/\w'=w:=Any.strings_TrimRight_one Tryz.lays162 s c hc w hs
def Tryz.Om:ax:=⟨λ|283=>126|n=>n,λ|3=>3|9=>9|4=>4|n=>n,λ|n=>n⟩
theorem Tryz.lays283:Go.Proofs.Lays.n283 ae Tryz.Om:=by constructor<;>first|kernel_rfl|(intros;rfl)|decide
open Go.Lib
theorem Tryz.internal_strconv_small (i:Nat)(h:i<100)(w:au):
 aC ae 126 #[.int .i64 i] w λe w'=>e=.returned (.string ⟨(Lib.decDigits i).toArray⟩)/\w'=w:=Any.internal_strconv_small Tryz.lays283 i h w
def Tryz.Oo:ax:=⟨λ|284=>127|129=>147|317=>149|318=>150|n=>n,λ|53=>142|3=>3|212=>212|0=>0|4=>4|46=>90|5=>5|9=>9|n=>n,λ|17=>6|n=>n⟩
theorem Tryz.laysM284:Go.Proofs.LaysM.n284 ae Tryz.Oo:=by constructor<;>first|kernel_rfl|(intros;rfl)|decide|(constructor<;>first|kernel_rfl|(intros;rfl)|decide|(constructor<;>first|kernel_rfl|(intros;rfl)|decide))
open Go.Lib
theorem Tryz.internal_strconv_numDigits (u:Nat)(a:1<=u)(b:u<18446744073709551616)(w:au)(c:dP ae w "internal/strconv.uint64pow10" .u64 dD):
 aC ae 127 #[.int .u64 u] w λe w'=>e=.returned (.int .i64 (Lib.nDigits u))/\w'=w:=Any.internal_strconv_numDigits Tryz.laysM284 u a b w c
def Tryz.Oq:ax:=⟨λ|285=>128|n=>n,λ|37=>49|53=>142|3=>3|4=>4|51=>106|9=>9|5=>5|0=>0|n=>n,λ|n=>n⟩
theorem Tryz.lays285:Go.Proofs.Lays.n285 ae Tryz.Oq:=by constructor<;>first|kernel_rfl|(intros;rfl)|decide
open Go.RowKit Go.Sort Go.Lib
theorem Tryz.internal_strconv_formatBase10 (a off cap:Nat)(u:Nat)(d:Array UInt8)(w:au)(f:Holds (λ(b:UInt8)=>dQ .u8 (b.toNat:Int)) w a off d)(g:u<10^d.size)(h:u<18446744073709551616)(i:d.size<4611686018427387904):
 aC ae 128 #[.slice (ah ⟨a,off,aj⟩) d.size cap,.int .u64 u] w λe w'=>e=.returned (.tuple #[])/\∃(n v':Nat) (c:Array UInt8),w'=(putRow (λ(b:UInt8)=>dQ .u8 (b.toNat:Int)) w a off c).drewN n/\FmtInv d.size u 0 v' c:=Any.internal_strconv_formatBase10 Tryz.lays285 a off cap u d w f g h i
open Go.RowKit Go.Sort Go.Lib
def Tryz.Ot:ax:=⟨λ|245=>62|279=>67|280=>68|281=>69|282=>70|316=>79|171=>81|205=>80|243=>97|246=>112|283=>126|284=>127|285=>128|286=>129|129=>147|317=>149|318=>150|319=>151|320=>152|337=>170|338=>171|n=>n,λ|9=>9|3=>3|75=>55|167=>125|4=>4|168=>128|210=>146|37=>49|0=>0|127=>77|145=>166|143=>164|2=>2|171=>194|53=>142|5=>5|173=>197|212=>212|51=>106|20=>20|213=>213|46=>90|232=>261|233=>262|80=>59|n=>n,λ|15=>4|16=>5|17=>6|18=>7|19=>8|n=>n⟩
theorem Tryz.laysC245:Go.Proofs.LaysC.n245 ae Tryz.Ot:=by constructor<;>first|kernel_rfl|(intros;rfl)|decide|(constructor<;>first|kernel_rfl|(intros;rfl)|decide|(constructor<;>first|kernel_rfl|(intros;rfl)|decide))
open Go.RowKit
theorem Tryz.strconv_toError_syntax (fn s:ByteArray)(base bits:Int)(ev:aH)(w:au)(a:s.size<=281474976710656)(hv:w.cell? ⟨4,0,aj⟩=ah ev)(b:ev=.nilIface\/∃te pe,ev=.iface te pe):
 aC ae 62 #[.string fn,.string s,.int .i64 base,.int .i64 bits,.iface 125 (.int .i64 2)] w λe w'=>∃N,e=.returned (.iface 128 (.pointer (ah ⟨N,0,aj⟩)))/\w.heap.size<=N/\w'.heap[N]?=ah (.cells #[.string fn,.string s,ev] 146 (0,0))/\Below w.heap.size w w':=Any.strconv_toError_syntax Tryz.laysC245 fn s base bits ev w a hv b
def Tryz.Ou:ax:=⟨λ|287=>78|321=>95|322=>96|n=>n,λ|9=>9|3=>3|53=>142|75=>55|4=>4|167=>125|5=>5|46=>90|37=>49|0=>0|21=>21|80=>59|n=>n,λ|n=>n⟩
theorem Tryz.lays287:Go.Proofs.Lays.n287 ae Tryz.Ou:=by constructor<;>first|kernel_rfl|(intros;rfl)|decide
open Go.RowKit
open Go.RowKit
theorem Tryz.strconv_toError_range (fn s:ByteArray)(base bits:Int)(ev:aH)(w:au)(a:s.size<=281474976710656)(hv:w.cell? ⟨5,0,aj⟩=ah ev)(b:ev=.nilIface\/∃te pe,ev=.iface te pe):
 aC ae 62 #[.string fn,.string s,.int .i64 base,.int .i64 bits,.iface 125 (.int .i64 1)] w λe w'=>∃N,e=.returned (.iface 128 (.pointer (ah ⟨N,0,aj⟩)))/\w.heap.size<=N/\w'.heap[N]?=ah (.cells #[.string fn,.string s,ev] 146 (0,0))/\Below w.heap.size w w':=Any.strconv_toError_range Tryz.laysC245 fn s base bits ev w a hv b
def Tryz.Ov:ax:=⟨λ|172=>55|244=>61|245=>62|247=>66|279=>67|280=>68|281=>69|282=>70|287=>78|316=>79|171=>81|205=>80|321=>95|322=>96|243=>97|246=>112|283=>126|284=>127|285=>128|286=>129|129=>147|317=>149|318=>150|319=>151|320=>152|337=>170|338=>171|n=>n,λ|9=>9|3=>3|75=>55|76=>56|4=>4|5=>5|167=>125|37=>49|0=>0|85=>126|2=>2|168=>128|53=>142|175=>143|46=>90|210=>146|127=>77|145=>166|143=>164|21=>21|171=>194|173=>197|212=>212|51=>106|20=>20|213=>213|232=>261|233=>262|80=>59|n=>n,λ|15=>4|16=>5|17=>6|18=>7|19=>8|n=>n⟩
theorem Tryz.laysC172:Go.Proofs.LaysC.n172 ae Tryz.Ov:=by constructor<;>first|kernel_rfl|(intros;rfl)|decide|(constructor<;>first|kernel_rfl|(intros;rfl)|decide|(constructor<;>first|kernel_rfl|(intros;rfl)|decide))
open Go.RowKit
theorem Tryz.strconv_Atoi_ok (s:ByteArray)(a:s.size<=9223372036854775806)(v:Int)(h:bP s.data.toList=.ok v)(w:au):
 aC ae 55 #[.string s] w λe w'=>e=.returned (.tuple #[.int .i64 v,.nilIface])/\(w'=w\/∃t,w'=dn w 5 t):=Any.strconv_Atoi_ok Tryz.laysC172 s a v h w
open Go.RowKit
theorem Tryz.strconv_Atoi_syntax (s:ByteArray)(a:s.size<=281474976710656)(h:bP s.data.toList=bP [])(ev:aH)(w:au)(hv:w.cell? ⟨4,0,aj⟩=ah ev)(b:ev=.nilIface\/∃te pe,ev=.iface te pe):
 aC ae 55 #[.string s] w λe w'=>∃N,e=.returned (.tuple #[.int .i64 (0),.iface 128 (.pointer (ah ⟨N,0,aj⟩))])/\w.heap.size<=N/\w'.heap[N]?=ah (.cells #[.string ⟨#[65,116,111,105]⟩,.string s,ev] 146 (0,0))/\Below w.heap.size w w':=Any.strconv_Atoi_syntax Tryz.laysC172 s a h ev w hv b
open Go.RowKit
theorem Tryz.strconv_Atoi_range (s:ByteArray)(a:s.size<=281474976710656)(h:bP s.data.toList=.range)(ev:aH)(w:au)(hv:w.cell? ⟨5,0,aj⟩=ah ev)(b:ev=.nilIface\/∃te pe,ev=.iface te pe):
 aC ae 55 #[.string s] w λe w'=>∃N,e=.returned (.tuple #[.int .i64 (Lib.atoiSat s.data.toList),.iface 128 (.pointer (ah ⟨N,0,aj⟩))])/\w.heap.size<=N/\w'.heap[N]?=ah (.cells #[.string ⟨#[65,116,111,105]⟩,.string s,ev] 146 (0,0))/\Below w.heap.size w w':=Any.strconv_Atoi_range Tryz.laysC172 s a h ev w hv b
open Go.RowKit
open Go.RowKit Go.Lib
def Tryz.lays153_ren:ax:=⟨λ|153=>98|152=>113|226=>114|227=>115|228=>116|137=>47|119=>130|224=>45|225=>44|217=>43|266=>49|n=>n,λ|9=>9|3=>3|4=>4|5=>5|21=>21|117=>181|116=>180|0=>0|46=>90|124=>200|n=>n,λ|n=>n⟩
theorem Tryz.lays153:Go.Proofs.Lays.n153 ae Tryz.lays153_ren:=by constructor<;>first|kernel_rfl|(intros;rfl)|decide
open Go.RowKit Go.Lib
open Go.RowKit Go.Lib
def Tryz.lays105_ren:ax:=⟨λ|105=>218|212=>223|99=>224|165=>225|166=>17|170=>18|169=>19|263=>228|264=>229|206=>60|240=>32|241=>230|276=>40|277=>232|n=>n,λ|9=>9|3=>3|4=>4|20=>20|0=>0|46=>90|109=>279|5=>5|72=>51|76=>56|51=>106|146=>107|53=>142|148=>283|70=>48|37=>49|75=>55|127=>77|164=>87|80=>59|n=>n,λ|n=>n⟩
theorem Tryz.lays105:Go.Proofs.Lays.n105 ae Tryz.lays105_ren:=by constructor<;>first|kernel_rfl|(intros;rfl)|decide
theorem Tryz.Builder_Extra_105:Builder.Extra ae Tryz.lays105_ren:=by constructor<;>first|kernel_rfl|(intros;rfl)|decide|(constructor<;>first|kernel_rfl|(intros;rfl)|decide|(constructor<;>first|kernel_rfl|(intros;rfl)|decide))
open Go.RowKit Go.Lib
theorem Tryz.strings_Repeat (s:ByteArray)(c:Nat)(w:au)(hc:c<=9223372036854775807)(a:s.size*c<=140737488355328):
 aC ae 218 #[.string s,.int .i64 c] w λe w'=>e=.returned (.string ⟨(Lib.repeatL s.data.toList c).toArray⟩)/\Below w.heap.size w w':=Any.strings_Repeat Tryz.lays105 Tryz.Builder_Extra_105 s c w hc a
end Go.Proofs
namespace Go.Proofs.YthcalnnipjflkaaGreatDoor
open Go.RowKit
open Go.Lib hiding intOf
def OwnB (B:Nat)(v:aH)(l:List UInt8)(w:au):Prop:=w.ownsRow B 5 1 v l.length (byteCells l)
theorem OwnB.nil (B:Nat)(w:au):OwnB B (.slice aj 0 0) [] w:=⟨rfl,.inl ⟨rfl,rfl⟩⟩
theorem AO {w w':au}{B e size n:Nat}{v:aH}{xs:List aH}(h:w.ownsRow B e size v n xs)(b:Below w.heap.size w w'):w'.ownsRow B e size v n xs:=by
 refine⟨h.1,?_⟩;rcases h.2 with hn|⟨g,cap,c,hv,d,a,f⟩
 ·exact .inl hn
 ·refine .inr ⟨g,cap,c,hv,d,?_,f⟩
  have i:g<w.heap.size:=(aK.1 a).1;rw[b.block g i];exact a
theorem OwnB.below {B:Nat}{v:aH}{l:List UInt8}{w w':au}(h:OwnB B v l w)(a:Below w.heap.size w w'):OwnB B v l w':=AO h a
theorem tabs_below {a b:Nat}{w w':au}{B:Nat}(h:bI a b w)(c:Below B w w')(ha:a<B)(d:b<B):bI a b w':=by unfold bI at*;exact⟨λi hi=>by rw[c.cell (p:=⟨a,i,aj⟩) ha];exact h.1 i hi,λi hi=>by rw[c.cell (p:=⟨b,_,aj⟩) d,c.cell (p:=⟨b,_,aj⟩) d];exact h.2 i hi⟩
theorem xQ:(Tryz.prog.info? 5).map (λi=>(i.zero,i.size,i.bytes))=ah (ah (.int .u8 0),1,1):=iF
theorem AP (l:List UInt8):∀v∈byteCells l,v.oneCell'=ay:=by
 intro v hv;simp only[byteCells,List.mem_map]at hv;obtain⟨b,_,rfl⟩:=hv
 rfl
theorem xR {ops:Array bV}{rest:List bV}{o:bV}{a:Act}{Q:Exit->Act->au->Prop}(w:au)(e:o.guard=aj)(s x:dN)
  (f:o.op=.call {callee:=.builtin .append,args:=#[s,x],argTypes:=#[49,49]}){B:Nat}{v:aH}{l:List UInt8}(ns:List UInt8)(hs:a.eval s=v)(b:OwnB B v l w)
  (c:Nat)(hx:a.eval x=.slice (ah ⟨w.heap.size,0,aj⟩) ns.length c)(d:Array aH)(g:d=(byteCells ns).toArray)(A:l.length+ns.length<=140737488355328)(i:B<=w.heap.size)
  (h:∀v' w',OwnB B v' (l++ns) w'->Below B w w'->wpList ae ops Q rest (a.put o.dst v') w'):wpList ae ops Q (o::rest) a (w.alloc (.cells d 5)):=by
 obtain⟨m,hi,n,p,q⟩:=info_parts xQ;refine wpList_append_own _ e s x 49 f B 5 m (.int .u8 0) 1 1 aY hi n p q rfl iG v l.length (byteCells l) hs (World.ownsRow.alloc b _) ⟨w.heap.size,0,aj⟩ ns.length c (byteCells ns) hx (by simp[byteCells]) ?_ (AP ns) (by unfold maxLen;omega) iE iI ?_
 ·intro j u r
  subst g;have:(⟨w.heap.size,0,aj⟩:Addr).add j=⟨w.heap.size,j,aj⟩:=by unfold Addr.add;split<;>simp_all
  rw[this,aA (aP w _)];simpa using r
 ·intro v' w' t y _
  refine h v' w' (by unfold OwnB;rw[cZ,bW];exact t) ?_;exact((bn B w).alloc i _).grown y iI (λk z=>(World.ownsRow.lt b k z).1)
theorem Nj {ops:Array bV}{rest:List bV}{o:bV}{a:Act}{Q:Exit->Act->au->Prop}(w:au)(e:o.guard=aj)(sl x:dN)
  (f:o.op=.call {callee:=.builtin .append,args:=#[sl,x],argTypes:=#[49,9]}){B:Nat}{v:aH}{l:List UInt8}(hs:a.eval sl=v)(b:OwnB B v l w)(s:ByteArray)(hx:a.eval x=.string s)
  (g:l.length+s.size<=140737488355328)(c:B<=w.heap.size)
  (h:∀v' w',OwnB B v' (l++s.data.toList) w'->Below B w w'->w.grownBy w' v.ownBlock->wpList ae ops Q rest (a.put o.dst v') w'):wpList ae ops Q (o::rest) a w:=by
 obtain⟨i,hi,j,m,n⟩:=info_parts xQ;refine Lib.wpList_append_own_string _ e sl x 49 9 f B 5 i aY aV hi j m n v l.length (byteCells l) hs b s hx (by unfold maxLen;omega) g c ?_;intro v' w' p d _;refine h v' w' (by unfold OwnB;rw[cZ,bW,<-strCells_eq];simpa using p) ?_ ?_
 ·exact(bn B w).grown d c (λk q=>(World.ownsRow.lt b k q).1)
 ·exact d
theorem F5 {B:Nat}{v:aH}{l:List UInt8}{w:au}(h:OwnB B v l w):(convert 49 9 v).run ae w=.ok (.string ⟨l.toArray⟩) w:=by
 rcases h.2 with⟨rfl,a⟩|⟨g,cap,c,rfl,d,e,f,i,k,m⟩
 ·have:l=[]:=List.length_eq_zero_iff.1 a
  subst this;exact run_convert_bytes_nil w 49 5 aY dh 0 0 9 aV
 ·refine run_convert_bytes_back w 49 9 5 ⟨g,0,aj⟩ cap l aY dh aV ?_
  intro j b;have:=World.ownsRow.cells (w:=w) h rfl j (.int .u8 (l[j].toNat)) (by simp[byteCells,az b]);simpa using this
theorem OwnB.slice {B:Nat}{v:aH}{l:List UInt8}{w:au}(h:OwnB B v l w):∃a c,v=.slice a l.length c:=by
 rcases h.2 with⟨rfl,b⟩|⟨g,cap,d,rfl,_⟩
 ·rw[b];exact⟨_,_,rfl⟩
 ·exact⟨_,_,rfl⟩
theorem J8:(Tryz.prog.info? 51).map (·.size)=ah 2:=iF
theorem J9 (b:Nat)(w:au)(c:w.cell? ⟨b,0,aj⟩=ah (.pointer (ah ⟨b,0,aj⟩))):
  aC ae 32 #[.pointer (ah ⟨b,0,aj⟩)] w λe w'=>e=.returned (.tuple #[])/\w'=w:=by
 obtain⟨j,a,_⟩:=bQ.1 J8;go_enter dL,dF;go_wp2;rw[Lib.run_neq_ptr_same w _ bH a];go_wp2;go_end0;exact⟨rfl,rfl⟩
theorem Ko (b:Nat)(w:au)(f:w.cell? ⟨b,0,aj⟩=ah (.pointer aj))(a:w.shape? b=ah (51,2))(g:w.frozen? ⟨b,0,aj⟩=ag):
  aC ae 32 #[.pointer (ah ⟨b,0,aj⟩)] w λe w'=>e=.returned (.tuple #[])/\w'=w.setCell ⟨b,0,aj⟩ (.pointer (ah ⟨b,0,aj⟩)):=by
 obtain⟨j,c,d⟩:=bQ.1 J8;go_enter dL,dF;go_wp2;rw[Lib.run_to_unsafe w ⟨b,0,aj⟩ bH bZ c (by rw[d];decide) a (Nat.zero_lt_succ 1)];simp only[Result.andThen];rw[Oper.upon_value];go_wp2;rw[run_callFunc_extern Tryz.func40 iF iF iF (e:=Extern.AbiNoEscape.same) iF];rw[Lib.run_noEscape];simp only[Result.andThen];rw[Oper.upon_value];go_wp2;rw[Lib.run_from_unsafe w ⟨b,0,aj⟩ bZ bH c a iF];simp only[Result.andThen];rw[Oper.upon_value];go_wp2;go_end0;exact⟨rfl,rfl⟩
theorem Wl (B b:Nat)(a:List aH)(w:au)(h:aZ 51 5 B b a w):
  aC ae 32 #[.pointer (ah ⟨b,0,aj⟩)] w λe w'=>e=.returned (.tuple #[])/\(Lib.BuilderAt 51 5 B b (.pointer (ah ⟨b,0,aj⟩)) a w'/\Below B w w'):=by
 rcases h with h|h
 ·refine(Ko b w h.cell0 h.shape h.frozen0).mono ?_
  rintro e w' ⟨rfl,rfl⟩;exact⟨rfl,h.used _,(bn B w).setCell (p:=⟨b,0,aj⟩) h.1 _⟩
 ·refine(J9 b w h.cell0).mono ?_
  rintro e w' ⟨rfl,rfl⟩;exact⟨rfl,h,bn B _⟩
theorem agl (B b:Nat)(l:List UInt8)(s:ByteArray)(w:au)(h:aZ 51 5 B b (bD l) w)(m:l.length+s.size<=140737488355328)(n:B<=w.heap.size):
  aC ae 17 #[.pointer (ah ⟨b,0,aj⟩),.string s] w λe w'=>e=.returned (.tuple #[.int .i64 s.size,.nilIface])/\(aZ 51 5 B b (bD (l++s.data.toList)) w'/\Below B w w'):=by
 go_enter Tryz.func17,Tryz.ntmps17
 go_wp2_with(go_at_call 32;refine(Wl B b _ _ h).mono ?_)
 rintro e f ⟨rfl,o,g⟩;obtain⟨i,v,a,j,q⟩:=o;rw[bU]at j;have x:f.cell? ⟨b,0,aj⟩=ah (.pointer (ah ⟨b,0,aj⟩)):=by rw[aA a];rfl
 have y:f.cell? ⟨b,1,aj⟩=ah v:=by rw[aA a];rfl
 go_wp2_with(at_builtin;refine Nj _ rfl _ _ rfl rfl (B:=B) j s rfl m (bu n g.size) ?_)
 intro v' c k r t;have u:b<f.heap.size:=(aK.1 a).1
 have d:c.heap[b]?=ah (.cells #[.pointer (ah ⟨b,0,aj⟩),v] 51 (0,0)):=by rw[t.block b u (λe=>q e.symm)];exact a
 have d0:c.cell? ⟨b,0,aj⟩=ah (.pointer (ah ⟨b,0,aj⟩)):=by rw[aA d];rfl
 have z:c.cell? ⟨b,1,aj⟩=ah v:=by rw[aA d];rfl
 have A:=bY d 1;obtain⟨C,cap,rfl⟩:=k.slice;go_wp2;go_ret2;refine⟨rfl,.inr ?_,?_⟩
 ·exact Lib.BuilderAt.put (T:=51) (e:=5) i d (bs':=bD (l++s.data.toList)) (by rw[bU,show l.length+s.size=(l++s.data.toList).length from by simp];exact k) iG
 ·exact(g.trans r).setCell (p:=⟨b,1,aj⟩) i _
def yD {H:Type}:List aH->Option (bJ H×List di)
 |[.int .i64 op,.slice (ah ⟨b,o,sp⟩) n c,.bool m]=>if o=0/\sp.isNone=ay then ah (.agg [.lit (.int .i64 op),.lit (.int .i64 b),.lit (.int .i64 n),.lit (.int .i64 c),.lit (.bool m)],[])else aj
 |[.int .i64 op,.slice aj n c,.bool m]=>if n=0/\c=0 then ah (.agg [.lit (.int .i64 op),.lit (.bool m)],[])else aj
 |_=>aj
def qL {H:Type}:aH->Option (bJ H×List di)
 |.agg a=>yD a.toList
 |_=>aj
def xu:Array aH:=#[.func (.func 22) #[] #[],.func (.func 23) #[] #[]]
def yE:Array aH:=#[.func (.func 24) #[] #[],.func (.func 25) #[] #[]]
def zH:Array aH:=#[.func (.func 26) #[] #[],.func (.func 27) #[] #[]]
def BM:Array aH:=#[.func (.func 28) #[] #[],.func (.func 29) #[] #[]]
def rG:Nat->Array aH
 |0=>#[.func (.func 22) #[] #[],.func (.func 23) #[] #[],.func (.func 24) #[] #[],.func (.func 25) #[] #[],.func (.func 28) #[] #[],.func (.func 29) #[] #[]]
 |1=>#[.func (.func 22) #[] #[],.func (.func 23) #[] #[]]
 |2=>#[.func (.func 22) #[] #[],.func (.func 23) #[] #[],.func (.func 24) #[] #[],.func (.func 25) #[] #[],.func (.func 22) #[] #[],.func (.func 23) #[] #[]]
 |3=>#[.func (.func 22) #[] #[],.func (.func 23) #[] #[],.func (.func 22) #[] #[],.func (.func 23) #[] #[]]
 |4=>#[.func (.func 22) #[] #[],.func (.func 23) #[] #[],.func (.func 24) #[] #[],.func (.func 25) #[] #[]]
 |5=>#[.func (.func 22) #[] #[],.func (.func 23) #[] #[],.func (.func 24) #[] #[],.func (.func 25) #[] #[]]
 |6=>#[.func (.func 22) #[] #[],.func (.func 23) #[] #[],.func (.func 26) #[] #[],.func (.func 27) #[] #[]]
 |7=>#[.func (.func 22) #[] #[],.func (.func 23) #[] #[],.func (.func 26) #[] #[],.func (.func 27) #[] #[],.func (.func 28) #[] #[],.func (.func 29) #[] #[]]
 |8=>#[.func (.func 22) #[] #[],.func (.func 23) #[] #[],.func (.func 26) #[] #[],.func (.func 27) #[] #[],.func (.func 28) #[] #[],.func (.func 29) #[] #[]]
 |9=>#[.func (.func 22) #[] #[],.func (.func 23) #[] #[],.func (.func 26) #[] #[],.func (.func 27) #[] #[]]
 |10=>#[.func (.func 22) #[] #[],.func (.func 23) #[] #[],.func (.func 22) #[] #[],.func (.func 23) #[] #[]]
 |11=>#[.func (.func 22) #[] #[],.func (.func 23) #[] #[],.func (.func 22) #[] #[],.func (.func 23) #[] #[],.func (.func 22) #[] #[],.func (.func 23) #[] #[],.func (.func 22) #[] #[],.func (.func 23) #[] #[]]
 |12=>#[.func (.func 22) #[] #[],.func (.func 23) #[] #[]]
 |13=>#[.func (.func 22) #[] #[],.func (.func 23) #[] #[],.func (.func 28) #[] #[],.func (.func 29) #[] #[]]
 |14=>#[.func (.func 22) #[] #[],.func (.func 23) #[] #[]]
 |_=>#[]
def mQ {H:Type}(B:Nat):Nat->bJ H
 |0=>.agg [.lit (.int .i64 1),.lit (.int .i64 ((B+5:Nat):Int)),.lit (.int .i64 3),.lit (.int .i64 3),.lit (.bool ag)]
 |1=>.agg [.lit (.int .i64 2),.lit (.int .i64 ((B+6:Nat):Int)),.lit (.int .i64 1),.lit (.int .i64 1),.lit (.bool ag)]
 |2=>.agg [.lit (.int .i64 3),.lit (.int .i64 ((B+7:Nat):Int)),.lit (.int .i64 3),.lit (.int .i64 3),.lit (.bool ag)]
 |3=>.agg [.lit (.int .i64 4),.lit (.int .i64 ((B+8:Nat):Int)),.lit (.int .i64 2),.lit (.int .i64 2),.lit (.bool ag)]
 |4=>.agg [.lit (.int .i64 5),.lit (.int .i64 ((B+9:Nat):Int)),.lit (.int .i64 2),.lit (.int .i64 2),.lit (.bool ag)]
 |5=>.agg [.lit (.int .i64 6),.lit (.int .i64 ((B+10:Nat):Int)),.lit (.int .i64 2),.lit (.int .i64 2),.lit (.bool ag)]
 |6=>.agg [.lit (.int .i64 7),.lit (.int .i64 ((B+11:Nat):Int)),.lit (.int .i64 2),.lit (.int .i64 2),.lit (.bool ag)]
 |7=>.agg [.lit (.int .i64 8),.lit (.int .i64 ((B+12:Nat):Int)),.lit (.int .i64 3),.lit (.int .i64 3),.lit (.bool ag)]
 |8=>.agg [.lit (.int .i64 9),.lit (.int .i64 ((B+13:Nat):Int)),.lit (.int .i64 3),.lit (.int .i64 3),.lit (.bool ag)]
 |9=>.agg [.lit (.int .i64 10),.lit (.int .i64 ((B+14:Nat):Int)),.lit (.int .i64 2),.lit (.int .i64 2),.lit (.bool ag)]
 |10=>.agg [.lit (.int .i64 11),.lit (.int .i64 ((B+15:Nat):Int)),.lit (.int .i64 2),.lit (.int .i64 2),.lit (.bool ag)]
 |11=>.agg [.lit (.int .i64 12),.lit (.int .i64 ((B+16:Nat):Int)),.lit (.int .i64 4),.lit (.int .i64 4),.lit (.bool ag)]
 |12=>.agg [.lit (.int .i64 13),.lit (.int .i64 ((B+17:Nat):Int)),.lit (.int .i64 1),.lit (.int .i64 1),.lit (.bool ay)]
 |13=>.agg [.lit (.int .i64 14),.lit (.int .i64 ((B+18:Nat):Int)),.lit (.int .i64 2),.lit (.int .i64 2),.lit (.bool ag)]
 |14=>.agg [.lit (.int .i64 15),.lit (.int .i64 ((B+19:Nat):Int)),.lit (.int .i64 1),.lit (.int .i64 1),.lit (.bool ag)]
 |_=>.nil
def wo:Nat->List UInt8
 |0=>[108,111,97,100]
 |1=>[100,114,111,112]
 |2=>[99,111,110,118,101,114,116]
 |3=>[98,97,99,107]
 |4=>[99,104,101,99,107]
 |5=>[112,108,97,110]
 |6=>[103,101,116]
 |7=>[115,101,116]
 |8=>[105,110,115,101,114,116]
 |9=>[114,101,109,111,118,101]
 |10=>[100,105,102,102]
 |11=>[109,101,114,103,101]
 |12=>[105,110,102,101,114]
 |13=>[118,97,108,105,100,97,116,101]
 |14=>[112,114,105,110,116]
 |_=>[]
def qM {H:Type}(B:Nat):Nat->bJ H
 |0=>.map []
 |k+1=>(qM B k).put (.string (wo k)) (mQ B k)
structure FI (w0 w:au)(k:Nat):Prop where
 size:w.heap.size=w0.heap.size+5+k
 n:w.heap[w0.heap.size]?=ah (.cells xu 66)
 f:w.heap[w0.heap.size+1]?=ah (.cells yE 66)
 p:w.heap[w0.heap.size+2]?=ah (.cells zH 66)
 t:w.heap[w0.heap.size+3]?=ah (.cells BM 66)
 below:Below w0.heap.size w0 w
 own:w.ownsMap (H:=Unit) ae 9 qL (w0.heap.size+4) k (qM w0.heap.size k)
 rows:∀j,j<k->w.heap[w0.heap.size+5+j]?=ah (.cells (rG j) 66)
theorem FI.step {w0 w a:au}{k:Nat}(h:FI w0 w k)(hs:a.heap.size=(w.alloc (.cells (rG k) 66)).heap.size)(d:(w.alloc (.cells (rG k) 66)).grownBy a (ah (w0.heap.size+4)))
  (i:a.ownsMap (H:=Unit) ae 9 qL (w0.heap.size+4) (k+1) (qM w0.heap.size (k+1))):FI w0 a (k+1):=by
 have c:∀b,b<w.heap.size->b≠w0.heap.size+4->a.heap[b]?=w.heap[b]?:=λb g l=>by rw[d.block b iI (λe=>l (Option.some.inj e)),aB w _ b g]
 have m:=h.size;refine⟨by rw[hs];simp;omega,?_,?_,?_,?_,?_,i,?_⟩
 ·rw[c _ iE iE];exact h.n
 ·rw[c _ iE iE];exact h.f
 ·rw[c _ iE iE];exact h.p
 ·rw[c _ iE iE];exact h.t
 ·exact(h.below.alloc iE _).grown d iI (λb g=>by have e:=Option.some.inj g;omega)
 ·intro j o
  by_cases e:j=k
  ·subst e
   rw[show w0.heap.size+5+j=w.heap.size by omega,d.block _ iH (λe=>by have:=Option.some.inj e;omega)];exact aP w _
  ·rw[c _ iE iE];exact h.rows j iE
theorem RJ {w:au}{k e t:TypeId}{R:aH->Option (bJ Unit×List di)}{b n:Nat}{D:bJ Unit}(h:w.ownsMap ae k R b n D)(K:Maps.Keyed ae k)(a:Tryz.prog.underlying t=ah (.map k e))(hn:n<maxLen){key val:aH}{kl:Lit}{d:bJ Unit}{ps:List di}
  (c:keyOf ae k key=ah kl)(hv:R val=ah (d,ps)):∃w',(Instr.mapUpdate t (.map (ah b)) key val).run ae w=.ok () w'/\w'.ownsMap ae k R b (n+1) (D.put kl d)/\w.grownBy w' (ah b)/\w'.heap.size=w.heap.size:=by
 obtain⟨w',f,i,j⟩:=h.update K a hn c hv;obtain⟨es,o,l,F,hs,rfl⟩:=h;obtain⟨p,q,g,-,-,-⟩:=Maps.fit_store (R':=R) K a l F (Nat.lt_of_le_of_lt hs hn) (λ_ _ _ _ m=>m) c hv;rw[f]at g;have e:w'=_:=(Result.ok.inj g).2;refine⟨w',f,i,j,?_⟩;rw[e];simp[ChangeMaps.setBlock]
theorem oU {ops:Array bV}{rest:List bV}{o:bV}{a:Act}{Q:Exit->Act->au->Prop}(w:au)(c:o.guard=aj)(m x v:dN)(e:o.op=Op.insert 41 m x v)(b n:Nat)(D:bJ Unit)
  (hm:a.eval m=.map (ah b))(f:w.ownsMap (H:=Unit) ae 9 qL b n D)(hn:n<1000)(s:ByteArray)(hx:a.eval x=.string s)(val:aH)(hv:a.eval v=val)(d:bJ Unit)(hval:qL val=ah (d,[]))(hs:s.size<=maxLen)
  (hK:∀w',w'.ownsMap (H:=Unit) ae 9 qL b (n+1) (D.put (.string s.data.toList) d)->w.grownBy w' (ah b)->w'.heap.size=w.heap.size->wpList ae ops Q rest (a.put o.dst undef) w'):
  wpList ae ops Q (o::rest) a w:=by
 refine wpList_plain c λK' hK'=>?_
 obtain⟨w',g,r1,r2,h⟩:=RJ f (Maps.string_keyed aV) Tryz.underlying41 (by unfold maxLen;omega) (key:=.string s) (kl:=.string s.data.toList) (by simp[keyOf,mapKey,aV,hs]) hval;unfold Oper.wp;simp[execOp,e,hm,hx,hv,g,Result.andThen];exact hK' _ _ (hK w' r1 r2 h)
theorem FI.cells {w0 w:au}{k:Nat}(h:FI w0 w k):w.cell? ⟨w0.heap.size,0,aj⟩=ah (.func (.func 22) #[] #[])/\w.cell? ⟨w0.heap.size,1,aj⟩=ah (.func (.func 23) #[] #[])
  /\w.cell? ⟨w0.heap.size+1,0,aj⟩=ah (.func (.func 24) #[] #[])/\w.cell? ⟨w0.heap.size+1,1,aj⟩=ah (.func (.func 25) #[] #[])
  /\w.cell? ⟨w0.heap.size+1+1,0,aj⟩=ah (.func (.func 26) #[] #[])/\w.cell? ⟨w0.heap.size+1+1,1,aj⟩=ah (.func (.func 27) #[] #[])
  /\w.cell? ⟨w0.heap.size+1+1+1,0,aj⟩=ah (.func (.func 28) #[] #[])/\w.cell? ⟨w0.heap.size+1+1+1,1,aj⟩=ah (.func (.func 29) #[] #[]):=by
 refine⟨?_,?_,?_,?_,?_,?_,?_,?_⟩
 ·rw[aA h.n];rfl
 ·rw[aA h.n];rfl
 ·rw[aA h.f];rfl
 ·rw[aA h.f];rfl
 ·exact(aA h.p _).trans rfl
 ·exact(aA h.p _).trans rfl
 ·exact(aA h.t _).trans rfl
 ·exact(aA h.t _).trans rfl
def W0 (w:au):au:=((((w.alloc (.cells xu 66)).alloc (.cells yE 66)).alloc (.cells zH 66)).alloc (.cells BM 66)).alloc (.map #[] 0)
theorem zI (w:au):FI w (W0 w) 0:=by
 have a:(w.alloc (.cells xu 66)).heap.size=w.heap.size+1:=iH
 have b:((w.alloc (.cells xu 66)).alloc (.cells yE 66)).heap.size=w.heap.size+2:=iH
 have c:(((w.alloc (.cells xu 66)).alloc (.cells yE 66)).alloc (.cells zH 66)).heap.size=w.heap.size+3:=iH
 have d:((((w.alloc (.cells xu 66)).alloc (.cells yE 66)).alloc (.cells zH 66)).alloc (.cells BM 66)).heap.size=w.heap.size+4:=iH
 unfold W0;refine⟨iH,?_,?_,?_,?_,?_,?_,λj e=>absurd e (aJ j)⟩
 ·rw[aB _ _ _ iE,aB _ _ _ iE,aB _ _ _ iE,aB _ _ _ iE]
  exact aP w _
 ·rw[aB _ _ _ iE,aB _ _ _ iE,aB _ _ _ iE,<-a]
  exact aP _ _
 ·rw[aB _ _ _ iE,aB _ _ _ iE,<-b]
  exact aP _ _
 ·rw[aB _ _ _ iE,<-c]
  exact aP _ _
 ·exact(((((bn _ w).alloc (aO _) _).alloc iE _).alloc iE _).alloc iE _).alloc iE _
 ·have:=World.ownsMap_made (H:=Unit) ((((w.alloc (.cells xu 66)).alloc (.cells yE 66)).alloc (.cells zH 66)).alloc (.cells BM 66)) ae 9 qL
  rw[d]at this;exact this
theorem RN (w:au):aC ae 13 #[] w λe w'=>e=.returned (.map (ah (w.heap.size+4)))/\FI w w' 15:=by
 have D:=@run_makeMap ae;have zI:=zI w;go_enter Tryz.func13,Tryz.ntmps13;dsimp only[List.append]
 go_wp2_with(refine oU _ rfl _ _ _ rfl (w.heap.size+4) 0 _ rfl (zI.own.alloc _) iG _ rfl _ rfl (mQ w.heap.size 0) rfl (by unfold maxLen;decide) ?_)
 intro E a b hs;have n:=FI.step zI (hs.trans (by simp[W0])) b a;clear a b hs zI D;have d:=af n.size;have a:=af n.own;obtain⟨f,g,h,i,j,k,l,m⟩:=n.cells;have c:=af n;clear n
 go_wp2_with(refine oU _ rfl _ _ _ rfl (w.heap.size+4) 1 _ rfl (a.out.alloc _) iG _ rfl _ rfl (mQ w.heap.size 1) (by rw[d.out];rfl) (by unfold maxLen;decide) ?_)
 clear f g h i j k l m d a;intro F a b hs;have o:=FI.step c.out (hs.trans iH) b a;clear a b hs c;have d:=af o.size;have a:=af o.own;obtain⟨f,g,h,i,j,k,l,m⟩:=o.cells;have c:=af o;clear o
 go_wp2_with(refine oU _ rfl _ _ _ rfl (w.heap.size+4) 2 _ rfl (a.out.alloc _) iG _ rfl _ rfl (mQ w.heap.size 2) (by rw[d.out];rfl) (by unfold maxLen;decide) ?_)
 clear f g h i j k l m d a;intro w3 a b hs;have p:=FI.step c.out (hs.trans iH) b a;clear a b hs c;have d:=af p.size;have a:=af p.own;obtain⟨f,g,h,i,j,k,l,m⟩:=p.cells;have c:=af p;clear p
 go_wp2_with(refine oU _ rfl _ _ _ rfl (w.heap.size+4) 3 _ rfl (a.out.alloc _) iG _ rfl _ rfl (mQ w.heap.size 3) (by rw[d.out];rfl) (by unfold maxLen;decide) ?_)
 clear f g h i j k l m d a;intro G a b hs;have q:=FI.step c.out (hs.trans iH) b a;clear a b hs c;have d:=af q.size;have a:=af q.own;obtain⟨f,g,h,i,j,k,l,m⟩:=q.cells;have c:=af q;clear q
 go_wp2_with(refine oU _ rfl _ _ _ rfl (w.heap.size+4) 4 _ rfl (a.out.alloc _) iG _ rfl _ rfl (mQ w.heap.size 4) (by rw[d.out];rfl) (by unfold maxLen;decide) ?_)
 clear f g h i j k l m d a;intro H a b hs;have r:=FI.step c.out (hs.trans iH) b a;clear a b hs c;have d:=af r.size;have a:=af r.own;obtain⟨f,g,h,i,j,k,l,m⟩:=r.cells;have c:=af r;clear r
 go_wp2_with(refine oU _ rfl _ _ _ rfl (w.heap.size+4) 5 _ rfl (a.out.alloc _) iG _ rfl _ rfl (mQ w.heap.size 5) (by rw[d.out];rfl) (by unfold maxLen;decide) ?_)
 clear f g h i j k l m d a;intro I a b hs;have s:=FI.step c.out (hs.trans iH) b a;clear a b hs c;have d:=af s.size;have a:=af s.own;obtain⟨f,g,h,i,j,k,l,m⟩:=s.cells;have c:=af s;clear s
 go_wp2_with(refine oU _ rfl _ _ _ rfl (w.heap.size+4) 6 _ rfl (a.out.alloc _) iG _ rfl _ rfl (mQ w.heap.size 6) (by rw[d.out];rfl) (by unfold maxLen;decide) ?_)
 clear f g h i j k l m d a;intro J a b hs;have t:=FI.step c.out (hs.trans iH) b a;clear a b hs c;have d:=af t.size;have a:=af t.own;obtain⟨f,g,h,i,j,k,l,m⟩:=t.cells;have c:=af t;clear t
 go_wp2_with(refine oU _ rfl _ _ _ rfl (w.heap.size+4) 7 _ rfl (a.out.alloc _) iG _ rfl _ rfl (mQ w.heap.size 7) (by rw[d.out];rfl) (by unfold maxLen;decide) ?_)
 clear f g h i j k l m d a;intro K a b hs;have u:=FI.step c.out (hs.trans iH) b a;clear a b hs c;have d:=af u.size;have a:=af u.own;obtain⟨f,g,h,i,j,k,l,m⟩:=u.cells;have c:=af u;clear u
 go_wp2_with(refine oU _ rfl _ _ _ rfl (w.heap.size+4) 8 _ rfl (a.out.alloc _) iG _ rfl _ rfl (mQ w.heap.size 8) (by rw[d.out];rfl) (by unfold maxLen;decide) ?_)
 clear f g h i j k l m d a;intro L a b hs;have v:=FI.step c.out (hs.trans iH) b a;clear a b hs c;have d:=af v.size;have a:=af v.own;obtain⟨f,g,h,i,j,k,l,m⟩:=v.cells;have c:=af v;clear v
 go_wp2_with(refine oU _ rfl _ _ _ rfl (w.heap.size+4) 9 _ rfl (a.out.alloc _) iG _ rfl _ rfl (mQ w.heap.size 9) (by rw[d.out];rfl) (by unfold maxLen;decide) ?_)
 clear f g h i j k l m d a;intro M a b hs;have x:=FI.step c.out (hs.trans iH) b a;clear a b hs c;have d:=af x.size;have a:=af x.own;obtain⟨f,g,h,i,j,k,l,m⟩:=x.cells;have c:=af x;clear x
 go_wp2_with(refine oU _ rfl _ _ _ rfl (w.heap.size+4) 10 _ rfl (a.out.alloc _) iG _ rfl _ rfl (mQ w.heap.size 10) (by rw[d.out];rfl) (by unfold maxLen;decide) ?_)
 clear f g h i j k l m d a;intro N a b hs;have y:=FI.step c.out (hs.trans iH) b a;clear a b hs c;have d:=af y.size;have a:=af y.own;obtain⟨f,g,h,i,j,k,l,m⟩:=y.cells;have c:=af y;clear y
 go_wp2_with(refine oU _ rfl _ _ _ rfl (w.heap.size+4) 11 _ rfl (a.out.alloc _) iG _ rfl _ rfl (mQ w.heap.size 11) (by rw[d.out];rfl) (by unfold maxLen;decide) ?_)
 clear f g h i j k l m d a;intro O a b hs;have z:=FI.step c.out (hs.trans iH) b a;clear a b hs c;have d:=af z.size;have a:=af z.own;obtain⟨f,g,h,i,j,k,l,m⟩:=z.cells;have c:=af z;clear z
 go_wp2_with(refine oU _ rfl _ _ _ rfl (w.heap.size+4) 12 _ rfl (a.out.alloc _) iG _ rfl _ rfl (mQ w.heap.size 12) (by rw[d.out];rfl) (by unfold maxLen;decide) ?_)
 clear f g h i j k l m d a;intro P a b hs;have A:=FI.step c.out (hs.trans iH) b a;clear a b hs c;have d:=af A.size;have a:=af A.own;obtain⟨f,g,h,i,j,k,l,m⟩:=A.cells;have c:=af A;clear A
 go_wp2_with(refine oU _ rfl _ _ _ rfl (w.heap.size+4) 13 _ rfl (a.out.alloc _) iG _ rfl _ rfl (mQ w.heap.size 13) (by rw[d.out];rfl) (by unfold maxLen;decide) ?_)
 clear f g h i j k l m d a;intro Q a b hs;have B:=FI.step c.out (hs.trans iH) b a;clear a b hs c;have d:=af B.size;have a:=af B.own;obtain⟨f,g,h,i,j,k,l,m⟩:=B.cells;have c:=af B;clear B
 go_wp2_with(refine oU _ rfl _ _ _ rfl (w.heap.size+4) 14 _ rfl (a.out.alloc _) iG _ rfl _ rfl (mQ w.heap.size 14) (by rw[d.out];rfl) (by unfold maxLen;decide) ?_)
 clear f g h i j k l m d a;intro R a b hs;have C:=FI.step c.out (hs.trans iH) b a;clear a b hs c;have c:=af C;clear C;go_wp2;go_ret;exact⟨rfl,c.out⟩
theorem AQ {k:IntKind}{a b:Int}(h:a=b):Ending.returned (.int k a)=.returned (.int k b):=by rw[h]
theorem lh {a b:Bool}(h:a=b):Ending.returned (.bool a)=.returned (.bool b):=by rw[h]
theorem ext_list {a b:ByteArray}(h:a.data.toList=b.data.toList):a=b:=by cases a;cases b;simp at h;subst h;rfl
def iV (c:UInt8)(l:List UInt8):List UInt8:=l.takeWhile (·!=c)
def rY (c:UInt8)(l:List UInt8):List UInt8:=(l.dropWhile (·!=c)).drop 1
theorem Nk:∀(l:List UInt8) (c:UInt8),c∉l->indexByte l c= -1:=by
 intro l c h;rcases dG (indexByte l c) 0 with a|a
 ·have:=dH l c;omega
 ·obtain⟨n,hn⟩:=aS a
  have:=(dw (l:=l) (c:=c) (o:=n) hn).1;exact absurd (List.mem_of_getElem? this) h
theorem F6:∀(l:List UInt8) (c:UInt8),c∈l->indexByte l c=(iV c l).length/\l[(iV c l).length]?=ah c:=by
 intro l c h
 have e:l[(iV c l).length]?=ah c/\∀k,k<(iV c l).length->l[k]?≠ah c:=by
  induction l with
  |nil=>cases h
  |cons x r d=>
   by_cases hx:x=c
   ·subst hx
    simp[iV]
   ·have hr:c∈r:=by
     rcases dA.1 h with h|h
     ·exact absurd h.symm hx
     ·exact h
    obtain⟨f,i2⟩:=d hr;have e:iV c (x::r)=x::iV c r:=(by simp[iV,hx]);rw[e];refine⟨by simpa using f,λk a=>?_⟩;cases k with
    |zero=>simpa using hx
    |succ k=>simp at a⊢;exact i2 k a
 refine⟨?_,e.1⟩;rcases dG (indexByte l c) 0 with b|b
 ·have g:indexByte l c= -1:=by have:=dH l c;omega
  exact absurd e.1 (indexByte_none g _)
 ·obtain⟨n,hn⟩:=aS b
  obtain⟨i,j2⟩:=dw (l:=l) (c:=c) (o:=n) hn;rw[hn]
  have:n=(iV c l).length:=by
   rcases Nat.lt_trichotomy n (iV c l).length with h|h|h
   ·exact absurd i (e.2 n h)
   ·exact h
   ·exact absurd e.1 (j2 _ h)
  rw[this]
theorem zf (c:UInt8)(l:List UInt8):l.take (iV c l).length=iV c l:=by
 induction l with
 |nil=>rfl
 |cons x r a=>
  by_cases hx:x=c
  ·subst hx;simp[iV]
  ·have e:iV c (x::r)=x::iV c r:=by simp[iV,hx]
   rw[e];simp[a]
theorem F7 (c:UInt8)(l:List UInt8)(h:c∉l):iV c l=l:=by
 induction l with
 |nil=>rfl
 |cons x r a=>
  simp only[dA,not_or]at h;have hx:x≠c:=λe=>h.1 e.symm
  have e:iV c (x::r)=x::iV c r:=by simp[iV,hx]
  rw[e,a h.2]
theorem DI (c:UInt8)(l:List UInt8):l.drop ((iV c l).length+1)=rY c l:=by
 induction l with
 |nil=>simp[iV,rY]
 |cons x r a=>
  by_cases hx:x=c
  ·subst hx;simp[iV,rY]
  ·have e:iV c (x::r)=x::iV c r:=by simp[iV,hx]
   rw[e];simp[rY,hx]at a⊢;exact a
theorem qE (c:UInt8)(l:List UInt8):(iV c l).length<=l.length:=(List.takeWhile_sublist _).length_le
theorem Nl (c:UInt8)(l:List UInt8)(h:c∈l):(iV c l).length<l.length:=by have:=(F6 l c h).2;exact(List.getElem?_eq_some_iff.1 this).1
theorem Np (s:ByteArray)(c:UInt8)(w:au)(hs:s.size<=maxLen)(h:c∈s.data.toList):
  aC ae 30 #[.string s,.string ⟨#[c]⟩] w λe w'=>e=.returned (.tuple #[.string ⟨(iV c s.data.toList).toArray⟩,.string ⟨(rY c s.data.toList).toArray⟩,.bool ay])/\∃n,w'=w.drewN n:=by
 obtain⟨a,d⟩:=F6 _ _ h;have i:(iV c s.data.toList).length<s.size:=by have:=Nl _ _ h;simpa using this
 have e1:s.extract 0 (iV c s.data.toList).length=⟨(iV c s.data.toList).toArray⟩:=ext_list (by simp[ByteArray.data_extract];exact zf _ _)
 have b:s.extract ((iV c s.data.toList).length+1) s.size=⟨(rY c s.data.toList).toArray⟩:=ext_list (by rw[ByteArray.data_extract];simp;rw[<-DI,List.take_of_length_le iH])
 unfold maxLen at hs;generalize hn:(iV c s.data.toList).length=n at*;have f:=af a;have g:=af e1;have E2:=af b;clear a d e1 b h hn;go_enter dM,dI
 go_wp2_with(go_at_call 39;refine(Tryz.stringslite_Index_one _ _ _).mono ?_;rintro e w' ⟨rfl,rfl⟩;rw[f.out])
 have b1:IntKind.i64.wrap ((n:Int)+1)=(n:Int)+1:=IntWalk.i64_in _ iE;have b2:((n:Int)+1).toNat=n+1:=iE
 have b3:(0:Int)<=(n:Int)+1:=iE
 have j:(n:Int)<=s.size:=iE
 have k:(n:Int)+1<=s.size:=iE
 go_quiet (fail)
 go_wp2;go_ret3;exact⟨by rw[g.out,E2.out];rfl,nq,rfl⟩
theorem Nq (s:ByteArray)(c:UInt8)(w:au)(h:c∉s.data.toList):
  aC ae 30 #[.string s,.string ⟨#[c]⟩] w λe w'=>e=.returned (.tuple #[.string s,.string ⟨#[]⟩,.bool ag])/\∃n,w'=w.drewN n:=by
 have a:=af (Nk _ _ h);clear h;go_enter dM,dI
 go_wp2_with(go_at_call 39;refine(Tryz.stringslite_Index_one _ _ _).mono ?_;rintro e w' ⟨rfl,rfl⟩;rw[a.out])
 go_ret3;exact⟨rfl,0,rfl⟩
def wO (c:UInt8)(l:List UInt8):Bool:=l.contains c
theorem Nr (s:ByteArray)(c:UInt8)(w:au)(hs:s.size<=maxLen):
  aC ae 30 #[.string s,.string ⟨#[c]⟩] w λe w'=>e=.returned (.tuple #[.string ⟨(iV c s.data.toList).toArray⟩,.string ⟨(rY c s.data.toList).toArray⟩,.bool (wO c s.data.toList)])/\∃n,w'=w.drewN n:=by
 by_cases h:c∈s.data.toList
 ·have e:wO c s.data.toList=ay:=by simpa[wO]using h
  rw[e];exact Np s c w hs h
 ·have e:wO c s.data.toList=ag:=by simpa[wO]using h
  have e1:s=⟨(iV c s.data.toList).toArray⟩:=ext_list (by rw[F7 _ _ h])
  have a:rY c s.data.toList=[]:=by rw[<-DI,F7 _ _ h];simp
  rw[e,a,<-e1];exact Nq s c w h
theorem wP (s:ByteArray)(c:UInt8)(w:au)(hs:s.size<=maxLen):
  aC ae 14 #[.string s,.string ⟨#[c]⟩] w λe w'=>e=.returned (.tuple #[.string ⟨(iV c s.data.toList).toArray⟩,.string ⟨(rY c s.data.toList).toArray⟩,.bool (wO c s.data.toList)])/\∃n,w'=w.drewN n:=by
 have a:=af hs;clear hs;go_enter Tryz.func14,Tryz.ntmps14
 go_wp2_with(go_at_call 30;refine(Nr _ _ _ a.out).mono ?_;rintro e w' ⟨rfl,n,rfl⟩)
 go_ret3;exact⟨rfl,_,rfl⟩
theorem zg (s:ByteArray)(w:au)(hs:s.size<=maxLen):
  aC ae 31 #[.string s] w λe w'=>e=.returned (.string ⟨(iV 32 s.data.toList).toArray⟩)/\∃n,w'=w.drewN n:=by
 have a:=af hs;clear hs;go_enter Tryz.func31,Tryz.ntmps31
 go_wp2_with(go_at_call 14;refine(wP _ 32 _ a.out).mono ?_;rintro e w' ⟨rfl,n,rfl⟩)
 go_ret;exact⟨rfl,_,rfl⟩
def tX (i c:Nat):Bool:=decide ((97<=c/\c<=122)\/(65<=c/\c<=90)\/c=95\/(i≠0/\48<=c/\c<=57))
def xU (l:List UInt8)(k:Nat):Prop:=∀i,i<k->tX i (l.getD i 0).toNat=ay
def vw:Nat->List UInt8->Bool
 |_,[]=>ay
 |i,c::r=>tX i c.toNat&&vw (i+1) r
def nameB (l:List UInt8):Bool:=vw 0 l&&!l.isEmpty&&decide (l.length<=64)
theorem DJ:∀(l:List UInt8) (i:Nat),vw i l=ay↔∀k,k<l.length->tX (i+k) (l.getD k 0).toNat=ay
 |[],i=>by simp[vw]
 |c::r,i=>by
  have b:=DJ r (i+1);simp only[vw,Bool.and_eq_true,b];constructor
  ·rintro⟨d,e⟩ k a
   cases k with
   |zero=>simpa using d
   |succ k=>have:=e k (by simpa using a);simpa[dB,dJ 1 k]using this
  ·intro h
   refine⟨by simpa using h 0 iH,λk a=>?_⟩;have:=h (k+1) (by simpa using a);simpa[dB,dJ 1 k]using this
theorem Ns {l:List UInt8}(h:xU l l.length):vw 0 l=ay:=(DJ l 0).2 (by simpa[xU]using h)
theorem Nu {l:List UInt8}{k:Nat}(a:k<l.length)(h:tX k (l.getD k 0).toNat=ag):nameB l=ag:=by
 have:vw 0 l=ag:=by
  cases e:vw 0 l
  ·rfl
  ·have:=(DJ l 0).1 e k a
   rw[Nat.zero_add,h]at this;cases this
 simp[nameB,this]
theorem Nv {l:List UInt8}{k:Nat}(h:xU l k)(a:tX k (l.getD k 0).toNat=ay):xU l (k+1):=by
 intro i hi;by_cases e:i=k
 ·subst e;exact a
 ·exact h i iE
theorem lC (s:ByteArray)(k:Nat)(h:k<s.size):s.data.toList.getD k 0=s[k]:=by rw[aN,az (by simpa using h)];rfl
theorem cls (x:Int):
  (¬97<=x/\¬65<=x/\(x !=95)=ay/\¬48<=x/\True)\/(¬97<=x/\¬65<=x/\(x !=95)=ay/\48<=x/\x<=57)\/(¬97<=x/\¬65<=x/\(x !=95)=ay/\48<=x/\¬x<=57)
  \/(¬97<=x/\65<=x/\x<=90/\True/\True)\/(¬97<=x/\(65<=x/\¬x<=90)/\(x !=95)=ay/\48<=x/\¬x<=57)\/(¬97<=x/\65<=x/\¬x<=90/\(x !=95)=ag/\True)
  \/(97<=x/\x<=122/\True/\True/\True)\/((97<=x/\¬x<=122)/\(65<=x/\¬x<=90)/\(x !=95)=ay/\48<=x/\¬x<=57):=by
 simp only[and_true,bne_iff_ne,ne_eq,bne_eq_false_iff_eq];omega
theorem name_any (s:ByteArray)(w:au)(hs:s.size<=maxLen):
  aC ae 34 #[.string s] w λe w'=>e=.returned (.bool (nameB s.data.toList))/\w=w':=by
 unfold maxLen at hs;go_enter Tryz.func34,Tryz.ntmps34;go_wp2
 go_loop [7] (λi=>∃k:Nat,k<=s.size/\i=.int .i64 k/\xU s.data.toList k) (λi=>s.size - (intOf i).toNat)
 case atStart=>exact⟨0,aX _,rfl,λi hi=>absurd hi (aJ i)⟩
 case round=>
  obtain⟨k,D,rfl,hn⟩:=hrel;by_cases t:k<s.size
  ·have u:=lC s k t
   have H:=af hn;have z:k<s.data.toList.length:=(by simpa using t);have o:tX k (s[k]).toNat=ag->Hid (nameB s.data.toList=ag):=λv=>Nu z (by rw[u];exact v)
   have p:tX k (s[k]).toNat=ay->Hid (xU s.data.toList (k+1)):=λv=>Nv hn (by rw[u];exact v)
   clear u hn
   have f:tX k (s[k]).toNat=decide ((97<=((s[k]).toNat:Int)/\((s[k]).toNat:Int)<=122)\/(65<=((s[k]).toNat:Int)/\((s[k]).toNat:Int)<=90)\/((s[k]).toNat:Int)=95\/(k≠0/\48<=((s[k]).toNat:Int)/\((s[k]).toNat:Int)<=57)):=by unfold tX;congr 1;apply propext;omega
   have g:((k:Int)==0)=ay/\k=0\/((k:Int)==0)=ag/\0<k:=by
    rcases Nat.eq_zero_or_pos k with h|h
    ·exact .inl ⟨by simp[h],h⟩
    ·exact .inr ⟨iI,h⟩
   have E:k+1<=s.size:=t;rcases cls ((s[k]).toNat:Int)with⟨j,m,a,c,n⟩|⟨j,m,a,c,n⟩|⟨j,m,a,c,n⟩|⟨j,m,a,c,n⟩|⟨j,⟨m,A⟩,a,c,n⟩|⟨j,m,a,c,n⟩|⟨j,m,a,c,n⟩|⟨⟨j,F⟩,⟨m,A⟩,a,c,n⟩
   case inr.inl=>
    rcases g with⟨g,q⟩|⟨g,q⟩
    ·have d:=o (by rw[f];exact iw (by simp at a;omega))
     clear o p q f;go_wp2;go_ret;exact⟨lh d.out.symm,rfl⟩
    ·have d:=p (by rw[f];exact iq (by first|omega|(simp at a;omega)|(simp at c;omega)))
     clear o p q f;go_wp2;go_round
     case rel=>exact⟨k+1,iE,by go_num,d.out⟩
     case measure=>simp[intOf];omega
   case inl|inr.inr.inl|inr.inr.inr.inr.inl|inr.inr.inr.inr.inr.inr.inr=>
    have d:=o (by rw[f];exact iw (by simp at a;omega));clear o p f;rcases g with⟨g,q⟩|⟨g,q⟩
    all_goals
     clear q;go_wp2;go_ret;exact⟨lh d.out.symm,rfl⟩
   all_goals
    have d:=p (by rw[f];exact iq (by first|omega|(simp at a;omega)|(simp at c;omega)));clear o p g f;go_wp2;go_round
    case rel=>exact⟨k+1,iE,by go_num,d.out⟩
    case measure=>simp[intOf];omega
  ·obtain rfl:k=s.size:=iE
   have d:=af (Ns (l:=s.data.toList) (by rw[show s.data.toList.length=s.size from by simp];exact hn));clear hn;by_cases y:s.size=0
   ·obtain rfl:s=⟨#[]⟩:=by
     have:s.data.size=0:=y;exact ext_list (by simp[Array.eq_empty_of_size_eq_zero this])
    go_wp2;go_ret;exact⟨rfl,rfl⟩
   ·have e1:s.data.toList.isEmpty=ag:=by
     cases h:s.data.toList with
     |nil=>exact absurd (by simpa using ig List.length h) y
     |cons x r=>rfl
    have e3:∀b:Bool,decide ((s.size:Int)<=64)=b->nameB s.data.toList=b:=by rintro b rfl;simp[nameB,d.out,e1];omega
    have B:=af e3;clear e3
    have C:¬s.toList=[]:=λe=>by have:=(toList_nil_iff_emptyBytes s).1 e;subst this;exact y rfl
    have G:(!s.toList.isEmpty)=ay:=by
     cases h:s.toList with
     |nil=>exact absurd h C
     |cons x r=>rfl
    go_wp2;go_ret;exact⟨lh (B.out _ rfl).symm,rfl⟩
theorem F8 (c:Int)(w:au):
  aC ae 41 #[.int .u8 c] w λe w'=>e=.returned (.int .i64 (indexByte [48,49,50,51,52,53,54,55,56,57,97,98,99,100,101,102] c.toNat.toUInt8))/\w=w':=by
 go_enter Tryz.func41,Tryz.ntmps41
 go_wp2_with(go_at_call 47;refine(Tryz.strings_IndexByte _ _ _).mono ?_;rintro e w' ⟨rfl,rfl⟩)
 go_ret;exact⟨rfl,rfl⟩
def rZ (w:au)(v:aH)(l:List Int):Prop:=
 ∃a c,v=.slice a l.length c/\l.length<=140737488355328/\(l=[]\/∃b o,a=ah ⟨b,o,aj⟩/\∀(j:Nat) (x:Int),l[j]?=ah x->w.cell? ⟨b,o+j,aj⟩=ah (.int .i64 x))
structure Nd where
 kind:Int
 text:ByteArray
 ord:Bool
 keys:List Int
 items:List Int
def vH (w:au)(b o:Nat)(n:Nd):Prop:=
 ∃a c,w.cell? ⟨b,o,aj⟩=ah (.int .i64 n.kind)/\w.cell? ⟨b,o+1,aj⟩=ah (.string n.text)/\w.cell? ⟨b,o+2,aj⟩=ah (.bool n.ord)/\w.cell? ⟨b,o+3,aj⟩=ah a/\w.cell? ⟨b,o+4,aj⟩=ah c/\rZ w a n.keys/\rZ w c n.items
def jJ (w:au)(v:aH)(N:List Nd):Prop:=
 ∃a c,v=.slice a N.length c/\N.length<=140737488355328/\(N=[]\/∃b o,a=ah ⟨b,o,aj⟩/\∀(i:Nat) (n:Nd),N[i]?=ah n->vH w b (o+i*5) n)
theorem iU {w w':au}(a:Below w.heap.size w w'){b o:Nat}{v:aH}(h:w.cell? ⟨b,o,aj⟩=ah v):w'.cell? ⟨b,o,aj⟩=ah v:=by rw[a.cell (p:=⟨b,o,aj⟩) (aT w _ h)];exact h
theorem rZ.below {w w':au}{v:aH}{l:List Int}(h:rZ w v l)(e:Below w.heap.size w w'):rZ w' v l:=by
 obtain⟨a,c,f,g,d⟩:=h;refine⟨a,c,f,g,?_⟩;rcases d with d|⟨b,o,d,i⟩
 ·exact .inl d
 ·exact .inr ⟨b,o,d,λj x k=>iU e (i j x k)⟩
theorem vH.below {w w':au}{b o:Nat}{n:Nd}(h:vH w b o n)(a:Below w.heap.size w w'):vH w' b o n:=by obtain⟨c,d,e,f,g,i,j,k,l⟩:=h;exact⟨c,d,iU a e,iU a f,iU a g,iU a i,iU a j,k.below a,l.below a⟩
theorem jJ.below {w w':au}{v:aH}{N:List Nd}(h:jJ w v N)(e:Below w.heap.size w w'):jJ w' v N:=by
 obtain⟨a,c,f,g,d⟩:=h;refine⟨a,c,f,g,?_⟩;rcases d with d|⟨b,o,d,j⟩
 ·exact .inl d
 ·exact .inr ⟨b,o,d,λi n hi=>(j i n hi).below e⟩
theorem jl (w:au)(o:Obj):(w.alloc o).heap.size=w.heap.size+1:=iH
theorem iW (w:au)(o:Obj):Below w.heap.size w (w.alloc o):=(bn _ w).alloc (aO _) o
def jH (n:Nat)(l:List Int):Bool:=l.all λx=>decide (0<=x)&&decide (x<n)
def vI (N:List Nd)(root:Int):Bool:=(decide (0<=root)&&decide (root<N.length))&&N.all λn=>jH N.length n.keys&&jH N.length n.items
theorem GM {n k:Nat}{l:List Int}(h:k<l.length):jH n (l.take (k+1))=(jH n (l.take k)&&(decide (0<=l[k])&&decide (l[k]<n))):=by unfold jH;rw[aI h,bK];simp
theorem Ox {n k:Nat}{N:List Nd}(h:k<N.length):((N.take (k+1)).all λx=>jH n x.keys&&jH n x.items)=(((N.take k).all λx=>jH n x.keys&&jH n x.items)&&(jH n N[k].keys&&jH n N[k].items)):=by rw[aI h,bK];simp
theorem Oy {B:Nat}{w wr:au}(h:Below B w wr)(c:B<=wr.heap.size)(a b:Obj):Below B w ((wr.alloc a).alloc b):=(h.alloc c a).alloc iI b
theorem Oz {wr:au}{b:Nat}{x:Obj}(h:wr.heap[b]?=ah x)(a c:Obj):((wr.alloc a).alloc c).heap[b]?=ah x:=by have d:=(aK.1 h).1;rw[aB _ _ _ iI,aB _ _ _ d];exact h
theorem OC (w:au)(v:aH)(N:List Nd)(root:Int)(h:jJ w v N):
  aC ae 101 #[.agg #[v,.int .i64 root]] w λe w'=>e=.returned (.bool (vI N root))/\Below w.heap.size w w':=by
 have an:=af h;obtain⟨a,c,rfl,ao,S⟩:=h;have V:=af S;obtain⟨t,u⟩:=iC ((decide (0<=root)&&decide (root<(N.length:Int))));have W:=af u
 have X:(t=ag/\¬0<=root)\/(t=ag/\0<=root/\¬root<(N.length:Int))\/(t=ay/\0<=root/\root<(N.length:Int)):=by
  by_cases l:0<=root
  ·by_cases s:root<(N.length:Int)
   ·exact .inr (.inr ⟨by rw[<-u];simp[l,s],l,s⟩)
   ·exact .inr (.inl ⟨by rw[<-u];simp[s],l,s⟩)
  ·exact .inl ⟨by rw[<-u];simp[l],l⟩
 clear S u;rcases X with⟨rfl,l⟩|⟨rfl,l,s⟩|⟨rfl,l,s⟩
 all_goals
  go_enter Tryz.func101,Tryz.ntmps101;go_wp2
  go_loopw [3,24] (λg E wr=>∃i:Nat,i<=N.length/\E=.int .i64 i/\g=.bool ((decide (0<=root)&&decide (root<(N.length:Int)))&&(N.take i).all λx=>jH N.length x.keys&&jH N.length x.items)/\Below w.heap.size w wr/\wr.heap[w.heap.size]?=ah (.cells #[.slice a N.length c,.int .i64 root] 117)) (λ_ E _=>N.length - (intOf E).toNat)
  case atStart=>exact⟨0,aX _,rfl,by rw[W.out];rfl,iW _ _,aP w _⟩
 all_goals
  case round=>
   obtain⟨i,hi,rfl,rfl,J,y⟩:=hrel;have F:=af J;have Y:=af y;have ap:=iK y 0 (.slice a N.length c);have aq:w.heap.size<wr.heap.size:=(aK.1 y).1;by_cases G:i<N.length
   ·have ar:(i:Int)<(N.length:Int):=iE
    have K:=Ox (n:=N.length) G;rcases V.out with z|⟨b,o,ha,U⟩
    ·exfalso;rw[z]at G;exact aJ _ G
    subst ha;obtain⟨av,E,Z,aa,ab,aw,aD,H,I⟩:=(U i N[i] (az G)).below F.out;generalize N[i]=n at Z aa ab H I K;obtain⟨acc,L⟩:=iC (((decide (0<=root)&&decide (root<(N.length:Int)))&&(N.take i).all λx=>jH N.length x.keys&&jH N.length x.items))
    have ac:Hid (((decide (0<=root)&&decide (root<(N.length:Int)))&&(N.take (i+1)).all λx=>jH N.length x.keys&&jH N.length x.items)=((acc&&jH N.length n.keys)&&jH N.length n.items)):=by show _=_;rw[K,<-bC,L,bC]
    rw[L];obtain⟨aE,aF,rfl,aG,H⟩:=H;obtain⟨aL,aM,rfl,aR,I⟩:=I;clear L K U J y;go_wp2
    go_loop [3,34] (λg B=>(B=.int .i64 0/\g=.bool acc)\/(B=.int .i64 1/\g=.bool (acc&&jH N.length n.keys))\/(B=.int .i64 2/\g=.bool ((acc&&jH N.length n.keys)&&jH N.length n.items))) (λ_ B=>2 - (intOf B).toNat)
    case atStart=>exact .inl ⟨rfl,rfl⟩
    case round=>
     rcases hrel with⟨rfl,rfl⟩|⟨rfl,rfl⟩|⟨rfl,rfl⟩
     ·have M:=H
      obtain⟨A,hA⟩:=iC acc;have ad:=af hA;rw[hA];clear hA;go_wp2
      go_loop [3,40] (λg m=>∃j:Nat,j<=n.keys.length/\m=.int .i64 j/\g=.bool (A&&jH N.length (n.keys.take j))) (λ_ m=>n.keys.length - (intOf m).toNat)
      case atStart=>exact⟨0,aX _,rfl,by simp[jH]⟩
      case round=>
       obtain⟨j,ai,rfl,rfl⟩:=hrel;by_cases k:j<n.keys.length
       ·have ak:(j:Int)<(n.keys.length:Int):=iE
        rcases M with z|⟨O,lo,P,p⟩
        ·exfalso;rw[z]at k;exact aJ _ k
        ·subst P
         have hx:=p j n.keys[j] (az k);have al:O<wr.heap.size:=aT wr _ hx;have q:=GM (n:=N.length) k;have am:=af p;generalize n.keys[j]=x at hx q;obtain⟨T,r⟩:=iC ((A&&jH N.length (n.keys.take j)))
         have Q:Hid ((A&&jH N.length (n.keys.take (j+1)))=(T&&(decide (0<=x)&&decide (x<(N.length:Int))))):=by show _=_;rw[q,<-bC,r]
         rw[r];clear q r p
         have f:∀R,(T&&(decide (0<=x)&&decide (x<(N.length:Int))))=R->Hid (aU R=.bool (A&&jH N.length (n.keys.take (j+1)))):=λR hR=>by show _=_;rw[Q.out,hR]
         cases T
         ·have d:=f ag rfl
          clear f;go_wp2;go_round
          case rel=>exact⟨j+1,iE,by go_num,d.out⟩
          case measure=>simp[intOf];omega
         ·by_cases C:0<=x
          ·by_cases D:x<(N.length:Int)
           ·have d:=f ay (by simp[C,D])
            clear f;go_wp2;go_round
            case rel=>exact⟨j+1,iE,by go_num,d.out⟩
            case measure=>simp[intOf];omega
           ·have d:=f ag (by simp[D])
            clear f;go_wp2;go_round
            case rel=>exact⟨j+1,iE,by go_num,d.out⟩
            case measure=>simp[intOf];omega
          ·have d:=f ag (by simp[C])
           clear f;go_wp2;go_round
           case rel=>exact⟨j+1,iE,by go_num,d.out⟩
           case measure=>simp[intOf];omega
       ·obtain rfl:j=n.keys.length:=iE
        have d:Hid (aU (A&&jH N.length (n.keys.take n.keys.length))=aU (A&&jH N.length n.keys)):=by show _=_;rw[aQ]
        go_wp2;go_round
        case rel=>exact .inr (.inl ⟨rfl,d.out⟩)
        case measure=>decide
     ·have M:=I
      obtain⟨A,hA⟩:=iC ((acc&&jH N.length n.keys));have ad:=af hA;rw[hA];clear hA;go_wp2
      go_loop [3,40] (λg m=>∃j:Nat,j<=n.items.length/\m=.int .i64 j/\g=.bool (A&&jH N.length (n.items.take j))) (λ_ m=>n.items.length - (intOf m).toNat)
      case atStart=>exact⟨0,aX _,rfl,by simp[jH]⟩
      case round=>
       obtain⟨j,ai,rfl,rfl⟩:=hrel;by_cases k:j<n.items.length
       ·have ak:(j:Int)<(n.items.length:Int):=iE
        rcases M with z|⟨O,lo,P,p⟩
        ·exfalso;rw[z]at k;exact aJ _ k
        ·subst P
         have hx:=p j n.items[j] (az k);have al:O<wr.heap.size:=aT wr _ hx;have q:=GM (n:=N.length) k;have am:=af p;generalize n.items[j]=x at hx q;obtain⟨T,r⟩:=iC ((A&&jH N.length (n.items.take j)))
         have Q:Hid ((A&&jH N.length (n.items.take (j+1)))=(T&&(decide (0<=x)&&decide (x<(N.length:Int))))):=by show _=_;rw[q,<-bC,r]
         rw[r];clear q r p
         have f:∀R,(T&&(decide (0<=x)&&decide (x<(N.length:Int))))=R->Hid (aU R=.bool (A&&jH N.length (n.items.take (j+1)))):=λR hR=>by show _=_;rw[Q.out,hR]
         cases T
         ·have d:=f ag rfl
          clear f;go_wp2;go_round
          case rel=>exact⟨j+1,iE,by go_num,d.out⟩
          case measure=>simp[intOf];omega
         ·by_cases C:0<=x
          ·by_cases D:x<(N.length:Int)
           ·have d:=f ay (by simp[C,D])
            clear f;go_wp2;go_round
            case rel=>exact⟨j+1,iE,by go_num,d.out⟩
            case measure=>simp[intOf];omega
           ·have d:=f ag (by simp[D])
            clear f;go_wp2;go_round
            case rel=>exact⟨j+1,iE,by go_num,d.out⟩
            case measure=>simp[intOf];omega
          ·have d:=f ag (by simp[C])
           clear f;go_wp2;go_round
           case rel=>exact⟨j+1,iE,by go_num,d.out⟩
           case measure=>simp[intOf];omega
       ·obtain rfl:j=n.items.length:=iE
        have d:Hid (aU (A&&jH N.length (n.items.take n.items.length))=aU (A&&jH N.length n.items)):=by show _=_;rw[aQ]
        go_wp2;go_round
        case rel=>exact .inr (.inr ⟨rfl,d.out⟩)
        case measure=>decide
     ·go_wp2
      go_roundw
      case rel=>exact⟨i+1,iE,by go_num,by rw[ac.out],Oy F.out F.out.size _ _,Oz Y.out _ _⟩
      case measure=>simp[intOf];omega
   ·obtain rfl:i=N.length:=iE
    have d:Hid (vI N root=((decide (0<=root)&&decide (root<(N.length:Int)))&&(N.take N.length).all λx=>jH N.length x.keys&&jH N.length x.items)):=by show _=_;rw[aQ];rfl
    clear J y;go_wp2;go_ret;exact⟨lh d.out.symm,F.out⟩
def trimLen (L:List UInt8):Nat->Nat
 |0=>0
 |k+1=>if L.getD k 0=0 then trimLen L k else k+1
theorem trimLen_le (L:List UInt8):∀k,trimLen L k<=k
 |0=>aO _
 |k+1=>by unfold trimLen;have:=trimLen_le L k;split<;>omega
theorem GU (w:au)(g n c:Nat)(L:List UInt8)(hc:c<=maxLen)(hn:n<=c)(i:∀j,j<n->w.cell? ⟨g,j,aj⟩=ah (.int .u8 ((L.getD j 0).toNat:Int))):
  aC ae 172 #[.slice (ah ⟨g,0,aj⟩) n c] w λe w'=>e=.returned (.slice (ah ⟨g,0,aj⟩) (trimLen L n) c)/\w=w':=by
 unfold maxLen at hc;have l:=af i;clear i;go_enter Tryz.func172,Tryz.ntmps172;go_wp2
 go_loop [0] (λf=>∃k:Nat,k<=n/\f=.slice (ah ⟨g,0,aj⟩) k c/\trimLen L n=trimLen L k) (λf=>match f with|.slice _ k _=>k|_=>0)
 case atStart=>exact⟨n,aO _,rfl,rfl⟩
 case round=>
  obtain⟨k,q,rfl,d⟩:=hrel;cases k with
  |zero=>have a:=af d;clear d;go_wp2;go_ret;exact⟨by rw[a.out];rfl,rfl⟩
  |succ k=>
   have m:=l.out k iE;have e1:((k:Int)+1 - 1)=k:=iE;have o:(0:Int)<(k:Int)+1:=iE;have e3:(k:Int)<(k:Int)+1:=iE;have r:(0:Int)<=(k:Int):=iE;have e5:(k:Int)<=(c:Int):=iE
   have a:Hid (trimLen L n=if L.getD k 0=0 then trimLen L k else k+1):=by show _=_;rw[d];conv=>lhs;unfold trimLen
   clear d;generalize L.getD k 0=x at m a;by_cases b:x=0
   ·have h:Hid (trimLen L n=trimLen L k):=by show _=_;rw[a.out,gY b]
    have p:((x.toNat:Int)==0)=ay:=(by rw[b];rfl);clear a b;go_wp2;go_round
    case rel=>exact⟨k,iE,rfl,h.out⟩
    case measure=>exact Nat.lt_succ_self k
   ·have h:Hid (trimLen L n=k+1):=by show _=_;rw[a.out,gZ b]
    have p:((x.toNat:Int)==0)=ag:=by simp only[iy,ne_eq];exact λe=>b (UInt8.toNat_inj.1 (by have o:(0:UInt8).toNat=0:=rfl;omega))
    clear a b;go_wp2;go_ret;exact⟨by rw[h.out];rfl,rfl⟩
def rJ (x:Int):Bool:=decide ((97<=x/\x<=122)\/(65<=x/\x<=90)\/(48<=x/\x<=57)\/x=95\/x=45\/x=46\/x=58)
def qO (l:List UInt8):Bool:=l.all (λc=>rJ c.toNat)&&(decide (1<=l.length)&&decide (l.length<=64))
theorem UK (x:Int):∃b,Hid (rJ x=b)/\(
  (b=ay/\97<=x/\x<=122)\/(b=ay/\¬97<=x/\65<=x/\x<=90)\/(b=ay/\¬97<=x/\¬65<=x/\48<=x/\x<=57)
  \/(b=ag/\97<=x/\¬x<=122/\65<=x/\¬x<=90/\48<=x/\¬x<=57/\(x==95)=ag/\(x==45)=ag/\(x==46)=ag/\(x==58)=ag)
  \/(b=ay/\¬97<=x/\65<=x/\¬x<=90/\48<=x/\¬x<=57/\(x==95)=ay)
  \/(b=ag/\¬97<=x/\65<=x/\¬x<=90/\48<=x/\¬x<=57/\(x==95)=ag/\(x==45)=ag/\(x==46)=ag/\(x==58)=ag)
  \/(b=ay/\¬97<=x/\¬65<=x/\48<=x/\¬x<=57/\(x==95)=ag/\(x==45)=ag/\(x==46)=ag/\(x==58)=ay)
  \/(b=ag/\¬97<=x/\¬65<=x/\48<=x/\¬x<=57/\(x==95)=ag/\(x==45)=ag/\(x==46)=ag/\(x==58)=ag)
  \/(b=ay/\¬97<=x/\¬65<=x/\¬48<=x/\(x==95)=ag/\(x==45)=ay)
  \/(b=ay/\¬97<=x/\¬65<=x/\¬48<=x/\(x==95)=ag/\(x==45)=ag/\(x==46)=ay)
  \/(b=ag/\¬97<=x/\¬65<=x/\¬48<=x/\(x==95)=ag/\(x==45)=ag/\(x==46)=ag/\(x==58)=ag)):=by
 have T:((97<=x/\x<=122)\/(65<=x/\x<=90)\/(48<=x/\x<=57)\/x=95\/x=45\/x=46\/x=58)->Hid (rJ x=ay):=λh=>iq h
 have F:¬((97<=x/\x<=122)\/(65<=x/\x<=90)\/(48<=x/\x<=57)\/x=95\/x=45\/x=46\/x=58)->Hid (rJ x=ag):=λh=>iw h
 simp only[beq_iff_eq,iy,ne_eq];by_cases h:((97<=x/\x<=122)\/(65<=x/\x<=90)\/(48<=x/\x<=57)\/x=95\/x=45\/x=46\/x=58)
 ·exact⟨ay,T h,by simp only[true_and];omega⟩
 ·exact⟨ag,F h,by simp only[true_and];omega⟩
theorem UL {l:List UInt8}{k:Nat}(a:k<l.length)(h:(l.take k).all (λc=>rJ c.toNat)=ay)(b:rJ l[k].toNat=ay):(l.take (k+1)).all (λc=>rJ c.toNat)=ay:=by rw[aI a,bK,h];simp[b]
theorem UM {l:List UInt8}{k:Nat}(a:k<l.length)(b:rJ l[k].toNat=ag):qO l=ag:=by
 have:l.all (λc=>rJ c.toNat)=ag:=by rw[List.all_eq_false];exact⟨l[k],aW a,by rw[b];decide⟩
 unfold qO;rw[this];rfl
theorem UN (s:ByteArray)(w:au)(hs:s.size<=maxLen):
  aC ae 119 #[.string s] w λe w'=>e=.returned (.bool (qO s.data.toList))/\w=w':=by
 unfold maxLen at hs;have j:Hid (s.data.toList.length=s.size):=by show s.data.toList.length=s.size;simp
 go_enter Tryz.func119,Tryz.ntmps119;go_wp2
 go_loop [7] (λi=>∃k:Nat,k<=s.size/\i=.int .i64 k/\(s.data.toList.take k).all (λc=>rJ c.toNat)=ay) (λi=>s.size - (intOf i).toNat)
 case atStart=>exact⟨0,aX _,rfl,rfl⟩
 case round=>
  obtain⟨k,x,rfl,hn⟩:=hrel;by_cases p:k<s.size
  ·have q:k<s.data.toList.length:=by rw[j.out];exact p
   have y:(k:Int)<(s.size:Int):=iE;have l:=UL q hn;have m:=UM q;have r:s.data.toList[k]=s[k]:=rfl;rw[r]at l m;obtain⟨b,t,u⟩:=UK (s[k].toNat:Int);have n:b=ay->Hid ((s.data.toList.take (k+1)).all (λc=>rJ c.toNat)=ay):=λe=>l (by rw[t.out,e])
   have o:b=ag->Hid (qO s.data.toList=ag):=λe=>m (by rw[t.out,e])
   clear l m r hn;rcases u with⟨rfl,h⟩|⟨rfl,h⟩|⟨rfl,h⟩|⟨rfl,h⟩|⟨rfl,h⟩|⟨rfl,h⟩|⟨rfl,h⟩|⟨rfl,h⟩|⟨rfl,h⟩|⟨rfl,h⟩|⟨rfl,h⟩
   case inr.inr.inr.inl|inr.inr.inr.inr.inr.inl|inr.inr.inr.inr.inr.inr.inr.inl|inr.inr.inr.inr.inr.inr.inr.inr.inr.inr=>have a:=o rfl;clear n o;obtain⟨d,f,z,A⟩:=h;go_wp2;go_ret;exact⟨lh a.out.symm,rfl⟩
   all_goals
    have a:=n rfl;clear n o;obtain⟨d,f⟩:=h;go_wp2;go_round
    case rel=>exact⟨k+1,p,by go_num,a.out⟩
    case measure=>simp[intOf];omega
  ·obtain rfl:k=s.size:=iE
   have a:Hid (qO s.data.toList=(decide (1<=s.size)&&decide (s.size<=64))):=by show _=_;rw[<-j.out,aQ]at hn;unfold qO;rw[hn,j.out];rfl
   clear hn;by_cases d:1<=s.size
   ·by_cases f:s.size<=64
    ·have g:Hid (qO s.data.toList=ay):=by show _=_;rw[a.out];simp[d,f]
     have e1:(1:Int)<=s.size:=iE;have v:(s.size:Int)<=64:=iE;clear d f;go_wp2;go_ret;exact⟨lh g.out.symm,rfl⟩
    ·have g:Hid (qO s.data.toList=ag):=by show _=_;rw[a.out];simp[f]
     have e1:(1:Int)<=s.size:=iE;have v:¬(s.size:Int)<=64:=iE;clear d f;go_wp2;go_ret;exact⟨lh g.out.symm,rfl⟩
   ·have g:Hid (qO s.data.toList=ag):=by show _=_;rw[a.out];simp[d]
    have e1:¬(1:Int)<=s.size:=iE;clear d;go_wp2;go_ret;exact⟨lh g.out.symm,rfl⟩
def nd0:Nd:=⟨0,⟨#[]⟩,ag,[],[]⟩
def jR (N:List Nd):Nat->Nat->List Bool->List Bool
 |0,_,M=>M
 |f+1,a,M=>if M.getD a ag then M else
  (N.getD a nd0).items.foldl (λM x=>jR N f x.toNat M) ((N.getD a nd0).keys.foldl (λM x=>jR N f x.toNat M) (M.set a ay))
theorem zy {l:List Int}{F:Nat->List Bool->List Bool}(h:∀a M,(F a M).length=M.length/\(F a M).count ag<=M.count ag):∀M,(l.foldl (λM x=>F x.toNat M) M).length=M.length/\(l.foldl (λM x=>F x.toNat M) M).count ag<=M.count ag:=by
 induction l with
 |nil=>intro M;exact⟨rfl,aO _⟩
 |cons x l d=>intro M;simp only[List.foldl_cons];have b:=d (F x.toNat M);have c:=h x.toNat M;exact⟨b.1.trans c.1,bu b.2 c.2⟩
theorem GV {M:List Bool}{a:Nat}(h:a<M.length)(hf:M.getD a ag=ag):(M.set a ay).count ag+1=M.count ag:=by
 have e:M[a]=ag:=by rw[aN,az h]at hf;exact hf
 have hc:=List.count_set (l:=M) (a:=ay) (b:=ag) h;have hp:0<M.count ag:=List.count_pos_iff.2 (by rw[<-e];exact aW h);rw[e]at hc;simp at hc;omega
theorem vK (N:List Nd):∀f a M,(jR N f a M).length=M.length/\(jR N f a M).count ag<=M.count ag
 |0,a,M=>⟨rfl,aO _⟩
 |f+1,a,M=>by
  unfold jR;split
  ·exact⟨rfl,aO _⟩
  ·rename_i h
   have b:=vK N f;have c:=zy (l:=(N.getD a nd0).keys) b (M.set a ay);have d:=zy (l:=(N.getD a nd0).items) b ((N.getD a nd0).keys.foldl (λM x=>jR N f x.toNat M) (M.set a ay));refine⟨d.1.trans (c.1.trans iH),bu d.2 (bu c.2 ?_)⟩;by_cases e:a<M.length
   ·have:=GV e (by simpa using h);omega
   ·rw[List.set_eq_of_length_le iE];exact aO _
structure VW (w0:au)(v:aH)(N:List Nd)(mb bm bg bv:Nat)(M:List Bool)(w:au):Prop where
 nodes:jJ w0 v N
 below:Below w0.heap.size w0 w
 lo:w0.heap.size<=mb
 len:M.length=N.length
 marks:w.heap[mb]?=ah (.cells (M.map aU).toArray 4)
 box:w.cell? ⟨bm,0,aj⟩=ah (.slice (ah ⟨mb,0,aj⟩) N.length N.length)
 AZ:w.cell? ⟨bg,0,aj⟩=ah v
 A7:w.cell? ⟨bv,0,aj⟩=ah (.func (.func 118) #[] #[.pointer (ah ⟨bm,0,aj⟩),.pointer (ah ⟨bg,0,aj⟩),.pointer (ah ⟨bv,0,aj⟩)])
 ne:bm≠mb/\bg≠mb/\bv≠mb
theorem VW.mark {w0:au}{v:aH}{N:List Nd}{mb c d e:Nat}{M:List Bool}{w:au}(h:VW w0 v N mb c d e M w)(a:Nat):VW w0 v N mb c d e (M.set a ay) (w.setCell ⟨mb,a,aj⟩ (.bool ay)):=by
 have hs:∀b o,b≠mb->(w.setCell ⟨mb,a,aj⟩ (.bool ay)).cell? ⟨b,o,aj⟩=w.cell? ⟨b,o,aj⟩:=λb o f=>by unfold World.cell?;simp[bG,bT,Ne.symm f]
 refine⟨h.nodes,h.below.setCell (p:=⟨mb,a,aj⟩) h.lo _,h.lo,by simp[h.len],?_,?_,?_,?_,h.ne⟩
 ·simp[bG,bT,h.marks,List.map_set]
 ·rw[hs _ _ h.ne.1];exact h.box
 ·rw[hs _ _ h.ne.2.1];exact h.AZ
 ·rw[hs _ _ h.ne.2.2];exact h.A7
def nN (N:List Nd):Prop:=∀n∈N,(∀x∈n.keys,0<=x/\x<(N.length:Int))/\(∀x∈n.items,0<=x/\x<(N.length:Int))
theorem yf (w:au)(r:Option Nat):w.grownBy w r:=⟨rfl,rfl,rfl,aO _,λ_ _ _=>rfl⟩
theorem lN (w:au)(mb a:Nat)(v:aH):w.grownBy (w.setCell ⟨mb,a,aj⟩ v) (ah mb):=⟨rfl,rfl,rfl,by simp[bG],λk _ b=>Below.heap_setCell _ _ _ _ (λe=>b (by simp[e]))⟩
theorem visit_any (w0:au)(v:aH)(N:List Nd)(mb s t u:Nat)(hR:nN N):∀(f a:Nat) (M:List Bool) (w:au),M.count ag<f->a<N.length->VW w0 v N mb s t u M w->
  aC ae 118 #[.int .i64 a,.pointer (ah ⟨s,0,aj⟩),.pointer (ah ⟨t,0,aj⟩),.pointer (ah ⟨u,0,aj⟩)] w λe w'=>e=.returned (.tuple #[])/\VW w0 v N mb s t u (jR N f a M) w'/\w.grownBy w' (ah mb)/\w'.heap.size=w.heap.size:=by
 intro f
 induction f with
 |zero=>intro a M w h;exact absurd h (aJ _)
 |succ f Z=>
  intro a M w hc ha g;have y:=af g;have aa:=af Z;have ap:=af hR;have a6:=g.box;obtain⟨a7,a8,a9⟩:=g.ne;obtain⟨va,vc,aq,ba,ab⟩:=g.nodes;have ar:=af ab;clear ab;subst aq;have bb:=g.AZ;have bc:=g.A7;have I:a<M.length:=by rw[g.len];exact ha
  have ac:w.cell? ⟨mb,a,aj⟩=ah (.bool M[a]):=by rw[aA g.marks];simp[I]
  have fm:=bY g.marks a;have bd:(a:Int)<(N.length:Int):=iE
  clear g Z hR;rcases ar.out with z|⟨b,o,rfl,ad⟩
  ·exfalso;rw[z]at ha;exact aJ _ ha
  have L:N[a]?=ah N[a]:=az ha;have ai:=ad a N[a] L;have O:N.getD a nd0=N[a]:=by rw[aN,L];rfl
  have P:=ap.out N[a] (aW ha);generalize N[a]=n at ai O P;have av:=af O;have ak:=af P;obtain⟨be,bf,al,aw,aD,am,Q,J,K⟩:=ai;obtain⟨bg,bh,rfl,bi,J⟩:=J;obtain⟨bj,bk,rfl,bl,K⟩:=K;have aE:=af J;have aF:=af K;have an:=af Q;have aG:b<w0.heap.size:=aT w0 _ al;have bm:b≠mb:=by have:=y.out.lo;omega
  have e3:=iU y.out.below am;have bo:=iU y.out.below Q;clear ad L O P aG al aw aD am Q J K;by_cases hm:M[a]=ay
  ·have R:Hid (jR N (f+1) a M=M):=by
    show _=_;unfold jR;rw[gY (by rw[aN,az I];simpa using hm)]
   rw[hm]at ac;clear hm;go_enter dK,dC;go_wp2;refine bodyPost_ret (results_none rfl _ _ _) rfl ?_;exact⟨rfl,by rw[R.out];exact y.out,yf _ _,rfl⟩
  ·have S:M[a]=ag:=by simpa using hm
   have T:M.getD a ag=ag:=by rw[aN,az I];exact S
   have R:Hid (jR N (f+1) a M=n.items.foldl (λM x=>jR N f x.toNat M) (n.keys.foldl (λM x=>jR N f x.toNat M) (M.set a ay))):=by
    show _=_
    conv=>lhs;unfold jR
    rw[gZ (by rw[T];decide),av.out]
   have aL:=GV I T;have ao:Hid ((M.set a ay).count ag<f):=(by show(M.set a ay).count ag<f;omega);rw[S]at ac;have aM:=af (y.out.mark a);clear hm S T aL hc;go_enter dK,dC;go_wp2
   go_loopw [23] (λl wr=>∃(j:Nat) (M':List Bool),l=.int .i64 j/\j<=n.keys.length/\M'=(n.keys.take j).foldl (λM x=>jR N f x.toNat M) (M.set a ay)/\VW w0 (.slice (ah ⟨b,o,aj⟩) N.length vc) N mb s t u M' wr/\w.grownBy wr (ah mb)/\wr.heap.size=w.heap.size) (λl _=>n.keys.length - (intOf l).toNat)
   case atStart=>exact⟨0,_,rfl,aX _,rfl,aM.out,lN _ _ _ _,by simp[bG]⟩
   case round=>
    obtain⟨j,M',rfl,aR,m,c,A,B⟩:=hrel;have U:M'.count ag<=(M.set a ay).count ag:=(by rw[m];exact(zy (vK N f) _).2);have C:M'.count ag<f:=(by have:=ao.out;omega);have p:=af c;have D:=af m;have i:=af (iJ A B);have V:=af C;have a0:=c.A7;have a1:=c.AZ;have a2:=iU c.below an.out;clear m c A B U C;by_cases d:j<n.keys.length
    ·have a3:(j:Int)<(n.keys.length:Int):=iE
     have hx:=ak.out.1 n.keys[j] (aW d);rcases aE.out with z|⟨a4,lo,rfl,q⟩
     ·exfalso;rw[z]at d;exact aJ _ d
     have W:=iU p.out.below (q j n.keys[j] (az d))
     have E:Hid ((n.keys.take (j+1)).foldl (λM x=>jR N f x.toNat M) (M.set a ay)=jR N f n.keys[j].toNat M'):=by show _=_;rw[aI d,cu,<-D.out];rfl
     generalize n.keys[j]=x at hx W E;obtain⟨k,rfl⟩:=aS hx.1;have X:k<N.length:=(by have:=hx.2;omega);have a5:=af q;clear q hx
     go_wp2_with(go_at_call 118;refine(aa.out k M' wr V.out X p.out).mono ?_;rintro e w3 ⟨rfl,F,G,H⟩;have r:=af (iJ F (iJ G H));clear F G H)
     go_roundw
     case rel=>refine⟨j+1,_,by go_num,iE,E.out.symm,?_,i.out.1.trans r.out.2.1,r.out.2.2.trans i.out.2⟩;exact r.out.1
     case measure=>simp[intOf];omega
    ·obtain rfl:j=n.keys.length:=iE
     have Y:Hid (M'=n.keys.foldl (λM x=>jR N f x.toNat M) (M.set a ay)):=by show _=_;rw[D.out,aQ]
     go_wp2
     go_loopw [38] (λl wr=>∃(j:Nat) (M':List Bool),l=.int .i64 j/\j<=n.items.length/\M'=(n.items.take j).foldl (λM x=>jR N f x.toNat M) (n.keys.foldl (λM x=>jR N f x.toNat M) (M.set a ay))/\VW w0 (.slice (ah ⟨b,o,aj⟩) N.length vc) N mb s t u M' wr/\w.grownBy wr (ah mb)/\wr.heap.size=w.heap.size) (λl _=>n.items.length - (intOf l).toNat)
     case atStart=>exact⟨0,M',rfl,aX _,Y.out,p.out,i.out.1,i.out.2⟩
     case round=>
      obtain⟨j,M',rfl,aR,m,c,A,B⟩:=hrel;have U:M'.count ag<=(M.set a ay).count ag:=(by rw[m];exact bu (zy (vK N f) _).2 (zy (vK N f) _).2);have C:M'.count ag<f:=(by have:=ao.out;omega);have p:=af c;have D:=af m;have i:=af (iJ A B);have V:=af C;have a0:=c.A7;have a1:=c.AZ;have a2:=iU c.below an.out;clear m c A B U C;by_cases d:j<n.items.length
      ·have a3:(j:Int)<(n.items.length:Int):=iE
       have hx:=ak.out.2 n.items[j] (aW d);rcases aF.out with z|⟨a4,lo,rfl,q⟩
       ·exfalso;rw[z]at d;exact aJ _ d
       have W:=iU p.out.below (q j n.items[j] (az d))
       have E:Hid ((n.items.take (j+1)).foldl (λM x=>jR N f x.toNat M) (n.keys.foldl (λM x=>jR N f x.toNat M) (M.set a ay))=jR N f n.items[j].toNat M'):=by show _=_;rw[aI d,cu,<-D.out];rfl
       generalize n.items[j]=x at hx W E;obtain⟨k,rfl⟩:=aS hx.1;have X:k<N.length:=(by have:=hx.2;omega);have a5:=af q;clear q hx
       go_wp2_with(go_at_call 118;refine(aa.out k M' wr V.out X p.out).mono ?_;rintro e w3 ⟨rfl,F,G,H⟩;have r:=af (iJ F (iJ G H));clear F G H)
       go_roundw
       case rel=>refine⟨j+1,_,by go_num,iE,E.out.symm,?_,i.out.1.trans r.out.2.1,r.out.2.2.trans i.out.2⟩;exact r.out.1
       case measure=>simp[intOf];omega
      ·obtain rfl:j=n.items.length:=iE
       have Y:Hid (M'=n.items.foldl (λM x=>jR N f x.toNat M) (n.keys.foldl (λM x=>jR N f x.toNat M) (M.set a ay))):=by show _=_;rw[D.out,aQ]
       go_wp2;go_end0;exact⟨rfl,by rw[R.out,<-Y.out];exact p.out,i.out.1,i.out.2⟩
theorem count_le (M:List Bool):M.count ag<=M.length:=List.count_le_length
theorem GY (w0 w:au)(v:aH)(N:List Nd)(root:Int)(a mb:Nat)(M:List Bool)(c:jJ w0 v N)(hR:nN N)(b:Below w0.heap.size w0 w)(d:w0.heap.size<=mb)(f:M.length=N.length)(hm:w.heap[mb]?=ah (.cells (M.map aU).toArray 4))(ha:a<N.length):
  aC ae 102 #[.agg #[v,.int .i64 root],.int .i64 a,.slice (ah ⟨mb,0,aj⟩) N.length N.length] w λe w'=>e=.returned (.tuple #[])/\w.grownBy w' (ah mb)/\w'.heap[mb]?=ah (.cells ((jR N (N.length+1) a M).map aU).toArray 4):=by
 have g:mb<w.heap.size:=(aK.1 hm).1;have h:M.count ag<N.length+1:=by have:=count_le M;omega
 have i:=visit_any w0 v N mb (w.heap.size+1) w.heap.size (w.heap.size+1+1) hR (N.length+1) a M;have H:=af (iJ c (iJ b (iJ d (iJ f (iJ hm (iJ ha (iJ g (iJ h i))))))));obtain⟨va,vc,rfl,m,_⟩:=c;clear b d f hm ha g h i hR;go_enter Tryz.func102,Tryz.ntmps102
 go_wp2_with(go_at_call 118;refine(H.out.2.2.2.2.2.2.2.2 _ H.out.2.2.2.2.2.2.2.1 H.out.2.2.2.2.2.1 ?_).mono ?_)
 ·obtain⟨c,b,d,f,hm,ha,g,h,_⟩:=H.out
  have j:=((b.alloc b.size (.cells #[.slice va N.length vc,.int .i64 root] 117)).alloc (by simp;have:=b.size;omega) (.cells #[.slice (ah ⟨mb,0,aj⟩) N.length N.length] 168)).alloc (by simp;have:=b.size;omega) (.cells #[.func (.func 118) #[] #[.pointer (ah ⟨w.heap.size+1,0,aj⟩),.pointer (ah ⟨w.heap.size,0,aj⟩),.pointer (ah ⟨w.heap.size+1+1,0,aj⟩)]] 184);refine⟨c,j,d,f,?_,?_,?_,?_,iE,iE,iE⟩
  ·rw[aB _ _ _ iI,aB _ _ _ iI,aB _ _ _ g];exact hm
  ·go_simp
  ·go_simp
  ·go_simp
 ·rintro e w' ⟨rfl,k,l,n⟩
  go_wp2;go_end0;obtain⟨c,b,d,f,hm,ha,g,h,_⟩:=H.out;refine⟨rfl,?_,k.marks⟩;exact(((bz _ _ _).trans (bz _ _ _)).trans (bz _ _ _)).trans l
end Go.Proofs.YthcalnnipjflkaaGreatDoor
namespace Go.Proofs.YthcalnnipjflkaaGreatDoor
def jG:Nd:=⟨0,⟨#[]⟩,ag,[],[]⟩
def oC:List UInt8->Option (List UInt8×Nat)
 |[]=>aj
 |c::r=>
  if c=34 then ah ([],1)
  else if c=92 then match r with
   |[]=>aj
   |d::r2=>match oC r2 with
    |some (t,n)=>ah (d::t,n+2)
    |none=>aj
  else match oC r with
   |some (t,n)=>ah (c::t,n+1)
   |none=>aj
def CO (c:UInt8):Bool:=c==44||c==93||c==125||c==62||c==61||c==40||c==41
def jq (l:List UInt8):List UInt8:=l.takeWhile λc=>!CO c
def UD:List UInt8:=[48,49,50,51,52,53,54,55,56,57,97,98,99,100,101,102]
def hexN (c:UInt8):Int:=bF UD c
def xE (w R:List UInt8)(i:Nat):List UInt8:=R.set (i/2) ((R.getD (i/2) 0<<<4)|||UInt8.ofNat (hexN (w.getD i 0)).toNat)
def mV (w:List UInt8)(i:Nat):List UInt8:=(List.range i).foldl (xE w) (List.replicate (w.length/2) 0)
def uG (w:List UInt8):Option (List UInt8):=if w.length%2=1 then aj else if w.any (λc=>decide (hexN c<0))then aj else ah (mV w w.length)
def sZ (w:List UInt8):Nd:=
 if w=[110,117,108,108]then jG
 else if w=[116,114,117,101]\/w=[102,97,108,115,101]then⟨1,⟨w.toArray⟩,ag,[],[]⟩
 else if w.any (λc=>c==112||c==110)then⟨4,⟨w.toArray⟩,ag,[],[]⟩
 else if w.any (λc=>c==101)then⟨3,⟨w.toArray⟩,ag,[],[]⟩
 else⟨2,⟨w.toArray⟩,ag,[],[]⟩
def kG (s:List UInt8)(p:Nat)(c:UInt8):Option Nat:=if s[p]?=ah c then ah (p+1)else aj
def kK (v:Nat->List Nd->Option (Nat×List Nd))(s:List UInt8)(b:UInt8)(c:Bool):Nat->Nat->List Nd->List Int->List Int->Option (Nat×List Nd×List Int×List Int)
 |0,_,_,_,_=>aj
 |f+1,p,N,d,is=>
  if s[p]?=ah b then ah (p+1,N,d,is)
  else match(if is=[]then ah p else kG s p 44)with
   |none=>aj
   |some g=>match c with
    |false=>match v g N with
     |none=>aj
     |some (e,a)=>kK v s b c f e a d (is++[(N.length:Int)])
    |true=>match v g N with
     |none=>aj
     |some (e,a)=>match kG s e 61 with
      |none=>aj
      |some h=>match v h a with
       |none=>aj
       |some (i,j)=>kK v s b c f i j (d++[(N.length:Int)]) (is++[(a.length:Int)])
def jd (s:List UInt8):Nat->Nat->List Nd->Option (Nat×List Nd)
 |0,_,_=>aj
 |k+1,p,N=>
  if 4096<=N.length then aj
  else match s[p]? with
   |some 34=>match oC (s.drop (p+1))with
    |some (t,n)=>ah (p+1+n,N++[⟨5,⟨t.toArray⟩,ag,[],[]⟩])
    |none=>aj
   |some 35=>match uG (jq (s.drop (p+1)))with
    |some t=>ah (p+1+(jq (s.drop (p+1))).length,N++[⟨6,⟨t.toArray⟩,ag,[],[]⟩])
    |none=>aj
   |some 64=>ah (p+1+(jq (s.drop (p+1))).length,N++[⟨7,⟨(jq (s.drop (p+1))).toArray⟩,ag,[],[]⟩])
   |some 37=>ah (p+1+(jq (s.drop (p+1))).length,N++[⟨8,⟨(jq (s.drop (p+1))).toArray⟩,ag,[],[]⟩])
   |some 33=>match kG s (p+1+(jq (s.drop (p+1))).length) 40 with
    |none=>aj
    |some d=>match jd s k d (N++[jG])with
     |none=>aj
     |some (a,b)=>match kG s a 41 with
      |none=>aj
      |some e=>ah (e,b.set N.length ⟨11,⟨(jq (s.drop (p+1))).toArray⟩,ag,[],[((N.length+1:Nat):Int)]⟩)
   |some 91=>match kK (jd s k) s 93 ag (s.length+2) (p+1) (N++[jG]) [] []with
    |none=>aj
    |some (a,b,c,is)=>ah (a,b.set N.length ⟨9,⟨#[]⟩,ag,c,is⟩)
   |some 123=>match kK (jd s k) s 125 ay (s.length+2) (p+1) (N++[jG]) [] []with
    |none=>aj
    |some (a,b,c,is)=>ah (a,b.set N.length ⟨10,⟨#[]⟩,ag,c,is⟩)
   |some 60=>match kK (jd s k) s 62 ay (s.length+2) (p+1) (N++[jG]) [] []with
    |none=>aj
    |some (a,b,c,is)=>ah (a,b.set N.length ⟨10,⟨#[]⟩,ay,c,is⟩)
   |_=>ah (p+(jq (s.drop p)).length,N++[sZ (jq (s.drop p))])
def wF (s:List UInt8):Option (List Nd):=match jd s 33 0 []with
 |some (p,N)=>if p=s.length then ah N else aj
 |none=>aj
