import Derived.Shelf.Strings.Builder1
import Derived.Shelf.Strings.Builder2
import Derived.Shelf.Strings.Trim
import Derived.Shelf.Small.Utf8
import Derived.Shelf.Small.Bits
import Derived.Shelf.Small.Strs
import Derived.Shelf.Small.Wraps
import Derived.Shelf.Strings.BuilderF
import Derived.Shelf.Strings.BuilderK
import Derived.Shelf.Strconv.Atoi
import Derived.Shelf.Strconv.Itoa0
import Derived.Shelf.Strconv.Itoa1
import Derived.Shelf.LaysM
import Derived.Shelf.Strconv.Itoa2
import Derived.Shelf.Strconv.Itoa3
import Derived.Shelf.Strconv.AtoiErrFast
import Derived.Shelf.Strconv.ParseIntEmpty
import Derived.Shelf.Strconv.AtoiFail
import Derived.Shelf.Strconv.Clone
import Derived.Shelf.Strconv.SyntaxError
import Derived.Shelf.LaysC
import Derived.Shelf.Strconv.ToError
import Derived.Shelf.Strconv.Lower
import Derived.Shelf.Strconv.ParseUint10
import Derived.Shelf.Strconv.ParseUint10Empty
import Derived.Shelf.Strconv.ParseUint10Any
import Derived.Shelf.Strconv.ParseInt10
import Derived.Shelf.Strconv.AtoiLong
import Derived.Shelf.Strconv.AtoiInnerAll
import Derived.Shelf.Strconv.RangeError
import Derived.Shelf.Strconv.ToErrorRange
import Derived.Shelf.Strconv.AtoiAll
import Derived.Shelf.Strconv.ParseUint10b64
import Derived.Shelf.Strings.Search1
import Derived.Shelf.Strings.Search2
import Derived.Shelf.Strings.Search3
import Derived.Shelf.Strings.Cut
import Derived.Shelf.Strings.Shaped
import Derived.Shelf.Strings.Prefix
import Derived.Shelf.Strings.Runes
import Derived.Shelf.Strings.IndexAny
import Derived.Shelf.Strings.AsciiSet
import Derived.Shelf.Strings.IndexAnyAll
import Derived.Shelf.Bits.Mul64
import Derived.Shelf.Strings.Repeat
import Derived.Shelf.Unicode.DecodeSlow
import Derived.Shelf.Unicode.DecodeAny
import Derived.Ground.SlsfProg
import Derived.Shelf.SlSortCmp.Insertion
import Derived.WalkKit
import Derived.WalkSpells
import Derived.Lib.Hide
import Derived.Lib.AppendStr
import Derived.Laws.IdiomStrings
import Derived.Laws.Externs
import Derived.Laws.EntriesVeiled
import Derived.Maps.RangeWalk
import Derived.Maps.OwnSet
import Derived.Carry
import Derived.Lib.Builder
import Derived.Test.YthcalnnipjflkaaGreatDoorH
import Derived.Test.YthcalnnipjflkaaGreatDoorProg
import Derived.Test.YthcalnnipjflkaaGreatDoorRows
open Go.Proofs.Tryz renaming prog -> ae, underlying9 -> aC, underlying49 -> aI, underlying48 -> aJ, underlying87 -> aT, underlying5 -> aV, ntmps32 -> bz, func32 -> bC
open Go.Lib renaming hid -> af, cell_of_heap -> ax, alloc_old -> ay, Utf8Tabs -> aK, atoiAll -> aO, indexByte -> aQ, byteCells_append -> aU, trimPrefix -> aX, bytesWorld -> aY, IsBuilder -> aZ, pow10Tab -> bn, decodeGo -> bu, bitLen -> bF, TabIs -> bG
open Go.Shelf renaming Ren -> ag
open Go renaming World -> ah, Calls -> az, Value -> aA, heap_alloc_new -> aB, DataW -> aN, Oper -> aS, MemPlace -> aW, Operand -> bD
open Option renaming some -> aj, none -> au, map_eq_some_iff -> aP
open Bool renaming false -> aH
set_option linter.all false
set_option maxHeartbeats 4000000
set_option maxRecDepth 100000
namespace Go.Proofs
open Go.Shelf
open Go.RowKit
def Tryz.lays169_ren:ag:=⟨λ|169=>19|n=>n,λ|70=>48|9=>9|0=>0|72=>51|37=>49|127=>77|3=>3|5=>5|n=>n,λ|n=>n⟩
theorem Tryz.lays169:Go.Proofs.Lays.n169 ae Tryz.lays169_ren:=by constructor<;>first|kernel_rfl|(intros;rfl)|decide
theorem Tryz.Builder_Extra_169:Builder.Extra ae Tryz.lays169_ren:=by constructor<;>first|kernel_rfl|(intros;rfl)|decide|(constructor<;>first|kernel_rfl|(intros;rfl)|decide|(constructor<;>first|kernel_rfl|(intros;rfl)|decide))
open Go.RowKit
theorem Tryz.Builder_String_any (B b:Nat)(l:List UInt8)(w:ah)(h:aZ 51 5 B b (Lib.byteCells l) w)(a:B<=w.heap.size):
 az ae 19 #[.pointer (aj ⟨b,0,au⟩)] w λe w'=>e=.returned (.string ⟨l.toArray⟩)/\Below B w w':=Any.Builder_String_any Tryz.lays169 Tryz.Builder_Extra_169 B b l w h a
def Tryz.MN:ag:=⟨λ|125=>124|128=>146|129=>147|n=>n,λ|46=>90|3=>3|51=>106|53=>142|4=>4|5=>5|9=>9|n=>n,λ|n=>n⟩
theorem Tryz.lays125:Go.Proofs.Lays.n125 ae Tryz.MN:=by constructor<;>first|kernel_rfl|(intros;rfl)|decide
theorem Tryz.bits_Len (x:Int)(w:ah)(a:0<=x)(b:x<=18446744073709551615):
 az ae 124 #[.int .u64 x] w λe w'=>e=.returned (.int .i64 (bF x.toNat))/\w'=w:=Any.bits_Len Tryz.lays125 x w a b
def Tryz.MO:ag:=⟨λ|106=>169|213=>193|265=>210|n=>n,λ|9=>9|3=>3|n=>n,λ|n=>n⟩
theorem Tryz.MP:Go.Proofs.Lays.n106 ae Tryz.MO:=by constructor<;>first|kernel_rfl|(intros;rfl)|decide
open Go.RowKit
theorem Tryz.strings_Compare (a b:ByteArray)(w:ah):
 az ae 169 #[.string a,.string b] w λe w'=>e=.returned (.int .i64 (Lib.compareBytes a.data.toList b.data.toList))/\w'=w:=Any.strings_Compare Tryz.MP a b w
def Tryz.MQ:ag:=⟨λ|137=>47|217=>43|266=>49|n=>n,λ|9=>9|5=>5|3=>3|n=>n,λ|n=>n⟩
theorem Tryz.lays137:Go.Proofs.Lays.n137 ae Tryz.MQ:=by constructor<;>first|kernel_rfl|(intros;rfl)|decide
open Go.RowKit
theorem Tryz.strings_IndexByte (s:ByteArray)(c:Int)(w:ah):
 az ae 47 #[.string s,.int .u8 c] w λe w'=>e=.returned (.int .i64 (aQ s.data.toList c.toNat.toUInt8))/\w'=w:=Any.strings_IndexByte Tryz.lays137 s c w
def Tryz.MR:ag:=⟨λ|103=>51|210=>54|206=>60|n=>n,λ|9=>9|4=>4|24=>52|3=>3|n=>n,λ|n=>n⟩
theorem Tryz.MS:Go.Proofs.Lays.n103 ae Tryz.MR:=by constructor<;>first|kernel_rfl|(intros;rfl)|decide
open Go.RowKit
theorem Tryz.strings_CutPrefix (s p:ByteArray)(w:ah):
 az ae 51 #[.string s,.string p] w λe w'=>e=.returned (.tuple #[.string ⟨(aX s.data.toList p.data.toList).toArray⟩,.bool (Lib.hasPrefix s.data.toList p.data.toList)])/\w'=w:=Any.strings_CutPrefix Tryz.MS s p w
def Tryz.MV:ag:=⟨λ|104=>65|211=>77|207=>94|n=>n,λ|9=>9|4=>4|24=>52|3=>3|n=>n,λ|n=>n⟩
theorem Tryz.MW:Go.Proofs.Lays.n104 ae Tryz.MV:=by constructor<;>first|kernel_rfl|(intros;rfl)|decide
open Go.RowKit
theorem Tryz.strings_CutSuffix (s p:ByteArray)(w:ah)(hs:s.size<=9223372036854775807):
 az ae 65 #[.string s,.string p] w λe w'=>e=.returned (.tuple #[.string ⟨(Lib.trimSuffix s.data.toList p.data.toList).toArray⟩,.bool (Lib.hasSuffix s.data.toList p.data.toList)])/\w'=w:=Any.strings_CutSuffix Tryz.MW s p w hs
def Tryz.MX:ag:=⟨λ|172=>55|244=>61|245=>62|247=>66|279=>67|280=>68|281=>69|282=>70|287=>78|316=>79|171=>81|205=>80|321=>95|322=>96|243=>97|246=>112|283=>126|284=>127|285=>128|286=>129|129=>147|317=>149|318=>150|319=>151|320=>152|337=>170|338=>171|n=>n,λ|9=>9|3=>3|75=>55|76=>56|4=>4|5=>5|167=>125|37=>49|0=>0|85=>126|2=>2|168=>128|53=>142|175=>143|46=>90|210=>146|127=>77|145=>166|143=>164|21=>21|171=>194|173=>197|212=>212|51=>106|20=>20|213=>213|232=>261|233=>262|80=>59|n=>n,λ|15=>4|16=>5|17=>6|18=>7|19=>8|n=>n⟩
theorem Tryz.lays172:Go.Proofs.Lays.n172 ae Tryz.MX:=by constructor<;>first|kernel_rfl|(intros;rfl)|decide
open Go.RowKit
theorem Tryz.strconv_Atoi (s:ByteArray)(n:Int)(a:s.size<=18)(h:Lib.atoi s.data.toList=aj n)(w:ah):
 az ae 55 #[.string s] w λe w'=>e=.returned (.tuple #[.int .i64 n,.nilIface])/\∃t,w'=aY w 5 t:=Any.strconv_Atoi Tryz.lays172 s n a h w
def Tryz.MZ:ag:=⟨λ|129=>147|n=>n,λ|53=>142|3=>3|4=>4|46=>90|5=>5|9=>9|n=>n,λ|n=>n⟩
theorem Tryz.lays129:Go.Proofs.Lays.n129 ae Tryz.MZ:=by constructor<;>first|kernel_rfl|(intros;rfl)|decide
theorem Tryz.bits_Len64 (x:Int)(w:ah)(a:0<=x)(b:x<=18446744073709551615):
 az ae 147 #[.int .u64 x] w λe w'=>e=.returned (.int .i64 (bF x.toNat))/\w'=w:=Any.bits_Len64 Tryz.lays129 x w a b
def Tryz.Na:ag:=⟨λ|171=>81|243=>97|246=>112|283=>126|284=>127|285=>128|286=>129|129=>147|317=>149|318=>150|319=>151|320=>152|337=>170|338=>171|n=>n,λ|3=>3|9=>9|2=>2|4=>4|171=>194|0=>0|53=>142|37=>49|5=>5|173=>197|212=>212|51=>106|20=>20|213=>213|46=>90|232=>261|233=>262|n=>n,λ|17=>6|18=>7|19=>8|n=>n⟩
theorem Tryz.laysM171:Go.Proofs.LaysM.n171 ae Tryz.Na:=by constructor<;>first|kernel_rfl|(intros;rfl)|decide|(constructor<;>first|kernel_rfl|(intros;rfl)|decide|(constructor<;>first|kernel_rfl|(intros;rfl)|decide))
open Go.RowKit Go.Sort Go.Lib
theorem Tryz.strconv_Itoa (n:Int)(a: -9223372036854775808<=n)(b:n<=9223372036854775807)(w:ah)(c:bG ae w "internal/strconv.uint64pow10" .u64 bn):
 az ae 81 #[.int .i64 n] w λe w'=>e=.returned (.string ⟨(Lib.itoa n).toArray⟩)/\∃k os,w'=grow (w.drewN k) os:=Any.strconv_Itoa Tryz.laysM171 n a b w c
def Tryz.Nb:ag:=⟨λ|219=>39|217=>43|225=>44|224=>45|267=>46|266=>49|314=>50|n=>n,λ|9=>9|3=>3|4=>4|5=>5|46=>90|146=>107|51=>106|n=>n,λ|1=>3|n=>n⟩
theorem Tryz.lays219:Go.Proofs.Lays.n219 ae Tryz.Nb:=by constructor<;>first|kernel_rfl|(intros;rfl)|decide
open Go.RowKit Go.Lib
theorem Tryz.stringslite_Index_one (s:ByteArray)(c:UInt8)(w:ah):
 az ae 39 #[.string s,.string ⟨#[c]⟩] w λe w'=>e=.returned (.int .i64 (aQ s.data.toList c))/\w'=w:=Any.stringslite_Index_one Tryz.lays219 s c w
def Tryz.Nh:ag:=⟨λ|144=>100|143=>117|219=>39|217=>43|225=>44|224=>45|267=>46|266=>49|314=>50|n=>n,λ|9=>9|4=>4|3=>3|5=>5|46=>90|146=>107|51=>106|n=>n,λ|1=>3|n=>n⟩
theorem Tryz.lays144:Go.Proofs.Lays.n144 ae Tryz.Nh:=by constructor<;>first|kernel_rfl|(intros;rfl)|decide
open Go.RowKit Go.Lib
theorem Tryz.strings_Contains_one (s:ByteArray)(c:UInt8)(w:ah):
 az ae 100 #[.string s,.string ⟨#[c]⟩] w λe w'=>e=.returned (.bool (decide (0<=aQ s.data.toList c)))/\w'=w:=Any.strings_Contains_one Tryz.lays144 s c w
def Tryz.lays99_ren:ag:=⟨λ|99=>224|206=>60|n=>n,λ|9=>9|4=>4|3=>3|n=>n,λ|n=>n⟩
open Go.RowKit Go.Lib
def Tryz.lays101_ren:ag:=⟨λ|101=>173|208=>194|206=>60|n=>n,λ|9=>9|4=>4|3=>3|n=>n,λ|n=>n⟩
theorem Tryz.lays101:Go.Proofs.Lays.n101 ae Tryz.lays101_ren:=by constructor<;>first|kernel_rfl|(intros;rfl)|decide
open Go.RowKit Go.Lib
theorem Tryz.strings_TrimPrefix (s p:ByteArray)(w:ah):
 az ae 173 #[.string s,.string p] w λe w'=>e=.returned (.string ⟨(aX s.data.toList p.data.toList).toArray⟩)/\w'=w:=Any.strings_TrimPrefix Tryz.lays101 s p w
def Tryz.lays197_ren:ag:=⟨λ|197=>21|260=>33|n=>n,λ|9=>9|21=>21|3=>3|4=>4|5=>5|105=>61|119=>89|0=>0|46=>90|139=>93|138=>92|n=>n,λ|3=>1|4=>2|n=>n⟩
theorem Tryz.lays197:Go.Proofs.Lays.n197 ae Tryz.lays197_ren:=by constructor<;>first|kernel_rfl|(intros;rfl)|decide
open Go.RowKit Go.Lib
theorem Tryz.utf8_DecodeRuneInString (s:ByteArray)(w:ah)(a:aK 1 2 w):
 az ae 21 #[.string s] w λe w'=>e=.returned (.tuple #[.int .i32 (bu s).1,.int .i64 (bu s).2])/\Below w.heap.size w w':=Any.utf8_DecodeRuneInString Tryz.lays197 s w a
end Go.Proofs
namespace Go.Proofs
open Go.Shelf
def Tryz.Ol:ag:=⟨λ|162=>207|232=>219|227=>115|234=>220|236=>221|228=>116|271=>226|151=>227|120=>231|197=>21|152=>113|260=>33|137=>47|119=>130|224=>45|225=>44|217=>43|266=>49|n=>n,λ|9=>9|4=>4|3=>3|5=>5|117=>181|116=>180|0=>0|124=>200|21=>21|105=>61|46=>90|119=>89|139=>93|138=>92|n=>n,λ|3=>1|4=>2|n=>n⟩
theorem Tryz.lays162:Go.Proofs.Lays.n162 ae Tryz.Ol:=by constructor<;>first|kernel_rfl|(intros;rfl)|decide
open Go.RowKit
theorem Tryz.strings_TrimRight_one (s:ByteArray)(c:UInt8)(hc:c.toNat<128)(w:ah)(hs:s.size<=9223372036854775807):
 az ae 207 #[.string s,.string ⟨#[c]⟩] w λe w'=>e=.returned (.string ⟨(Lib.trimRightB s.data.toList c).toArray⟩)/\w'=w:=Any.strings_TrimRight_one Tryz.lays162 s c hc w hs
def Tryz.Om:ag:=⟨λ|283=>126|n=>n,λ|3=>3|9=>9|4=>4|n=>n,λ|n=>n⟩
theorem Tryz.lays283:Go.Proofs.Lays.n283 ae Tryz.Om:=by constructor<;>first|kernel_rfl|(intros;rfl)|decide
open Go.Lib
theorem Tryz.internal_strconv_small (i:Nat)(h:i<100)(w:ah):
 az ae 126 #[.int .i64 i] w λe w'=>e=.returned (.string ⟨(Lib.decDigits i).toArray⟩)/\w'=w:=Any.internal_strconv_small Tryz.lays283 i h w
def Tryz.Oo:ag:=⟨λ|284=>127|129=>147|317=>149|318=>150|n=>n,λ|53=>142|3=>3|212=>212|0=>0|4=>4|46=>90|5=>5|9=>9|n=>n,λ|17=>6|n=>n⟩
theorem Tryz.laysM284:Go.Proofs.LaysM.n284 ae Tryz.Oo:=by constructor<;>first|kernel_rfl|(intros;rfl)|decide|(constructor<;>first|kernel_rfl|(intros;rfl)|decide|(constructor<;>first|kernel_rfl|(intros;rfl)|decide))
open Go.Lib
theorem Tryz.internal_strconv_numDigits (u:Nat)(a:1<=u)(b:u<18446744073709551616)(w:ah)(c:bG ae w "internal/strconv.uint64pow10" .u64 bn):
 az ae 127 #[.int .u64 u] w λe w'=>e=.returned (.int .i64 (Lib.nDigits u))/\w'=w:=Any.internal_strconv_numDigits Tryz.laysM284 u a b w c
def Tryz.Oq:ag:=⟨λ|285=>128|n=>n,λ|37=>49|53=>142|3=>3|4=>4|51=>106|9=>9|5=>5|0=>0|n=>n,λ|n=>n⟩
theorem Tryz.lays285:Go.Proofs.Lays.n285 ae Tryz.Oq:=by constructor<;>first|kernel_rfl|(intros;rfl)|decide
open Go.RowKit Go.Sort Go.Lib
theorem Tryz.internal_strconv_formatBase10 (a off cap:Nat)(u:Nat)(d:Array UInt8)(w:ah)(f:Holds (λ(b:UInt8)=>Value.int .u8 (b.toNat:Int)) w a off d)(g:u<10^d.size)(h:u<18446744073709551616)(i:d.size<4611686018427387904):
 az ae 128 #[.slice (aj ⟨a,off,au⟩) d.size cap,.int .u64 u] w λe w'=>e=.returned (.tuple #[])/\∃(n v':Nat) (c:Array UInt8),w'=(putRow (λ(b:UInt8)=>Value.int .u8 (b.toNat:Int)) w a off c).drewN n/\FmtInv d.size u 0 v' c:=Any.internal_strconv_formatBase10 Tryz.lays285 a off cap u d w f g h i
open Go.RowKit Go.Sort Go.Lib
def Tryz.Ot:ag:=⟨λ|245=>62|279=>67|280=>68|281=>69|282=>70|316=>79|171=>81|205=>80|243=>97|246=>112|283=>126|284=>127|285=>128|286=>129|129=>147|317=>149|318=>150|319=>151|320=>152|337=>170|338=>171|n=>n,λ|9=>9|3=>3|75=>55|167=>125|4=>4|168=>128|210=>146|37=>49|0=>0|127=>77|145=>166|143=>164|2=>2|171=>194|53=>142|5=>5|173=>197|212=>212|51=>106|20=>20|213=>213|46=>90|232=>261|233=>262|80=>59|n=>n,λ|15=>4|16=>5|17=>6|18=>7|19=>8|n=>n⟩
theorem Tryz.laysC245:Go.Proofs.LaysC.n245 ae Tryz.Ot:=by constructor<;>first|kernel_rfl|(intros;rfl)|decide|(constructor<;>first|kernel_rfl|(intros;rfl)|decide|(constructor<;>first|kernel_rfl|(intros;rfl)|decide))
open Go.RowKit
theorem Tryz.strconv_toError_syntax (fn s:ByteArray)(base bits:Int)(ev:aA)(w:ah)(a:s.size<=281474976710656)(hv:w.cell? ⟨4,0,au⟩=aj ev)(b:ev=.nilIface\/∃te pe,ev=.iface te pe):
 az ae 62 #[.string fn,.string s,.int .i64 base,.int .i64 bits,.iface 125 (.int .i64 2)] w λe w'=>∃N,e=.returned (.iface 128 (.pointer (aj ⟨N,0,au⟩)))/\w.heap.size<=N/\w'.heap[N]?=aj (.cells #[.string fn,.string s,ev] 146 (0,0))/\Below w.heap.size w w':=Any.strconv_toError_syntax Tryz.laysC245 fn s base bits ev w a hv b
def Tryz.Ou:ag:=⟨λ|287=>78|321=>95|322=>96|n=>n,λ|9=>9|3=>3|53=>142|75=>55|4=>4|167=>125|5=>5|46=>90|37=>49|0=>0|21=>21|80=>59|n=>n,λ|n=>n⟩
theorem Tryz.lays287:Go.Proofs.Lays.n287 ae Tryz.Ou:=by constructor<;>first|kernel_rfl|(intros;rfl)|decide
open Go.RowKit
open Go.RowKit
theorem Tryz.strconv_toError_range (fn s:ByteArray)(base bits:Int)(ev:aA)(w:ah)(a:s.size<=281474976710656)(hv:w.cell? ⟨5,0,au⟩=aj ev)(b:ev=.nilIface\/∃te pe,ev=.iface te pe):
 az ae 62 #[.string fn,.string s,.int .i64 base,.int .i64 bits,.iface 125 (.int .i64 1)] w λe w'=>∃N,e=.returned (.iface 128 (.pointer (aj ⟨N,0,au⟩)))/\w.heap.size<=N/\w'.heap[N]?=aj (.cells #[.string fn,.string s,ev] 146 (0,0))/\Below w.heap.size w w':=Any.strconv_toError_range Tryz.laysC245 fn s base bits ev w a hv b
def Tryz.Ov:ag:=⟨λ|172=>55|244=>61|245=>62|247=>66|279=>67|280=>68|281=>69|282=>70|287=>78|316=>79|171=>81|205=>80|321=>95|322=>96|243=>97|246=>112|283=>126|284=>127|285=>128|286=>129|129=>147|317=>149|318=>150|319=>151|320=>152|337=>170|338=>171|n=>n,λ|9=>9|3=>3|75=>55|76=>56|4=>4|5=>5|167=>125|37=>49|0=>0|85=>126|2=>2|168=>128|53=>142|175=>143|46=>90|210=>146|127=>77|145=>166|143=>164|21=>21|171=>194|173=>197|212=>212|51=>106|20=>20|213=>213|232=>261|233=>262|80=>59|n=>n,λ|15=>4|16=>5|17=>6|18=>7|19=>8|n=>n⟩
theorem Tryz.laysC172:Go.Proofs.LaysC.n172 ae Tryz.Ov:=by constructor<;>first|kernel_rfl|(intros;rfl)|decide|(constructor<;>first|kernel_rfl|(intros;rfl)|decide|(constructor<;>first|kernel_rfl|(intros;rfl)|decide))
open Go.RowKit
theorem Tryz.strconv_Atoi_ok (s:ByteArray)(a:s.size<=9223372036854775806)(v:Int)(h:aO s.data.toList=.ok v)(w:ah):
 az ae 55 #[.string s] w λe w'=>e=.returned (.tuple #[.int .i64 v,.nilIface])/\(w'=w\/∃t,w'=aY w 5 t):=Any.strconv_Atoi_ok Tryz.laysC172 s a v h w
open Go.RowKit
theorem Tryz.strconv_Atoi_syntax (s:ByteArray)(a:s.size<=281474976710656)(h:aO s.data.toList=aO [])(ev:aA)(w:ah)(hv:w.cell? ⟨4,0,au⟩=aj ev)(b:ev=.nilIface\/∃te pe,ev=.iface te pe):
 az ae 55 #[.string s] w λe w'=>∃N,e=.returned (.tuple #[.int .i64 (0),.iface 128 (.pointer (aj ⟨N,0,au⟩))])/\w.heap.size<=N/\w'.heap[N]?=aj (.cells #[.string ⟨#[65,116,111,105]⟩,.string s,ev] 146 (0,0))/\Below w.heap.size w w':=Any.strconv_Atoi_syntax Tryz.laysC172 s a h ev w hv b
open Go.RowKit
theorem Tryz.strconv_Atoi_range (s:ByteArray)(a:s.size<=281474976710656)(h:aO s.data.toList=.range)(ev:aA)(w:ah)(hv:w.cell? ⟨5,0,au⟩=aj ev)(b:ev=.nilIface\/∃te pe,ev=.iface te pe):
 az ae 55 #[.string s] w λe w'=>∃N,e=.returned (.tuple #[.int .i64 (Lib.atoiSat s.data.toList),.iface 128 (.pointer (aj ⟨N,0,au⟩))])/\w.heap.size<=N/\w'.heap[N]?=aj (.cells #[.string ⟨#[65,116,111,105]⟩,.string s,ev] 146 (0,0))/\Below w.heap.size w w':=Any.strconv_Atoi_range Tryz.laysC172 s a h ev w hv b
open Go.RowKit
open Go.RowKit Go.Lib
def Tryz.lays153_ren:ag:=⟨λ|153=>98|152=>113|226=>114|227=>115|228=>116|137=>47|119=>130|224=>45|225=>44|217=>43|266=>49|n=>n,λ|9=>9|3=>3|4=>4|5=>5|21=>21|117=>181|116=>180|0=>0|46=>90|124=>200|n=>n,λ|n=>n⟩
theorem Tryz.lays153:Go.Proofs.Lays.n153 ae Tryz.lays153_ren:=by constructor<;>first|kernel_rfl|(intros;rfl)|decide
open Go.RowKit Go.Lib
open Go.RowKit Go.Lib
def Tryz.lays105_ren:ag:=⟨λ|105=>218|212=>223|99=>224|165=>225|166=>17|170=>18|169=>19|263=>228|264=>229|206=>60|240=>32|241=>230|276=>40|277=>232|n=>n,λ|9=>9|3=>3|4=>4|20=>20|0=>0|46=>90|109=>279|5=>5|72=>51|76=>56|51=>106|146=>107|53=>142|148=>283|70=>48|37=>49|75=>55|127=>77|164=>87|80=>59|n=>n,λ|n=>n⟩
theorem Tryz.lays105:Go.Proofs.Lays.n105 ae Tryz.lays105_ren:=by constructor<;>first|kernel_rfl|(intros;rfl)|decide
theorem Tryz.Builder_Extra_105:Builder.Extra ae Tryz.lays105_ren:=by constructor<;>first|kernel_rfl|(intros;rfl)|decide|(constructor<;>first|kernel_rfl|(intros;rfl)|decide|(constructor<;>first|kernel_rfl|(intros;rfl)|decide))
open Go.RowKit Go.Lib
theorem Tryz.strings_Repeat (s:ByteArray)(c:Nat)(w:ah)(hc:c<=9223372036854775807)(a:s.size*c<=140737488355328):
 az ae 218 #[.string s,.int .i64 c] w λe w'=>e=.returned (.string ⟨(Lib.repeatL s.data.toList c).toArray⟩)/\Below w.heap.size w w':=Any.strings_Repeat Tryz.lays105 Tryz.Builder_Extra_105 s c w hc a
end Go.Proofs
namespace Go.Proofs.YthcalnnipjflkaaGreatDoor
open Go.RowKit
open Go.Lib hiding intOf
def OwnB (B:Nat)(v:aA)(l:List UInt8)(w:ah):Prop:=w.ownsRow B 5 1 v l.length (byteCells l)
theorem OwnB.nil (B:Nat)(w:ah):OwnB B (.slice au 0 0) [] w:=⟨rfl,.inl ⟨rfl,rfl⟩⟩
theorem AO {w w':ah}{B e size n:Nat}{v:aA}{xs:List aA}(h:w.ownsRow B e size v n xs)(b:Below w.heap.size w w'):w'.ownsRow B e size v n xs:=by
 refine⟨h.1,?_⟩;rcases h.2 with hn|⟨g,cap,c,hv,d,a,f⟩
 ·exact .inl hn
 ·refine .inr ⟨g,cap,c,hv,d,?_,f⟩
  have i:g<w.heap.size:=(Array.getElem?_eq_some_iff.1 a).1;rw[b.block g i];exact a
theorem tabs_below {a b:Nat}{w w':ah}{B:Nat}(h:aK a b w)(c:Below B w w')(ha:a<B)(d:b<B):aK a b w':=by unfold aK at*;exact⟨λi hi=>by rw[c.cell (p:=⟨a,i,au⟩) ha];exact h.1 i hi,λi hi=>by rw[c.cell (p:=⟨b,_,au⟩) d,c.cell (p:=⟨b,_,au⟩) d];exact h.2 i hi⟩
theorem xQ:(Tryz.prog.info? 5).map (λi=>(i.zero,i.size,i.bytes))=aj (aj (.int .u8 0),1,1):=iF
theorem AP (l:List UInt8):∀v∈byteCells l,v.oneCell'=true:=by
 intro v hv;simp only[byteCells,List.mem_map]at hv;obtain⟨b,_,rfl⟩:=hv
 rfl
theorem xR {ops:Array aS}{rest:List aS}{o:aS}{a:Act}{Q:Exit->Act->ah->Prop}(w:ah)(e:o.guard=au)(s x:bD)
  (f:o.op=.call {callee:=.builtin .append,args:=#[s,x],argTypes:=#[49,49]}){B:Nat}{v:aA}{l:List UInt8}(ns:List UInt8)(hs:a.eval s=v)(b:OwnB B v l w)
  (c:Nat)(hx:a.eval x=.slice (aj ⟨w.heap.size,0,au⟩) ns.length c)(d:Array aA)(g:d=(byteCells ns).toArray)(A:l.length+ns.length<=140737488355328)(i:B<=w.heap.size)
  (h:∀v' w',OwnB B v' (l++ns) w'->Below B w w'->wpList ae ops Q rest (a.put o.dst v') w'):wpList ae ops Q (o::rest) a (w.alloc (.cells d 5)):=by
 obtain⟨m,hi,n,p,q⟩:=info_parts xQ;refine wpList_append_own _ e s x 49 f B 5 m (.int .u8 0) 1 1 aI hi n p q rfl iG v l.length (byteCells l) hs (World.ownsRow.alloc b _) ⟨w.heap.size,0,au⟩ ns.length c (byteCells ns) hx (by simp[byteCells]) ?_ (AP ns) (by unfold maxLen;omega) iE iI ?_
 ·intro j u r
  subst g;have:(⟨w.heap.size,0,au⟩:Addr).add j=⟨w.heap.size,j,au⟩:=by unfold Addr.add;split<;>simp_all
  rw[this,ax (aB w _)];simpa using r
 ·intro v' w' t y _
  refine h v' w' (by unfold OwnB;rw[aU,List.length_append];exact t) ?_;exact((Below.refl B w).alloc i _).grown y iI (λk z=>(World.ownsRow.lt b k z).1)
theorem Nj {ops:Array aS}{rest:List aS}{o:aS}{a:Act}{Q:Exit->Act->ah->Prop}(w:ah)(e:o.guard=au)(sl x:bD)
  (f:o.op=.call {callee:=.builtin .append,args:=#[sl,x],argTypes:=#[49,9]}){B:Nat}{v:aA}{l:List UInt8}(hs:a.eval sl=v)(b:OwnB B v l w)(s:ByteArray)(hx:a.eval x=.string s)
  (g:l.length+s.size<=140737488355328)(c:B<=w.heap.size)
  (h:∀v' w',OwnB B v' (l++s.data.toList) w'->Below B w w'->w.grownBy w' v.ownBlock->wpList ae ops Q rest (a.put o.dst v') w'):wpList ae ops Q (o::rest) a w:=by
 obtain⟨i,hi,j,m,n⟩:=info_parts xQ;refine Lib.wpList_append_own_string _ e sl x 49 9 f B 5 i aI aC hi j m n v l.length (byteCells l) hs b s hx (by unfold maxLen;omega) g c ?_;intro v' w' p d _;refine h v' w' (by unfold OwnB;rw[aU,List.length_append,<-strCells_eq];simpa using p) ?_ ?_
 ·exact(Below.refl B w).grown d c (λk q=>(World.ownsRow.lt b k q).1)
 ·exact d
theorem F5 {B:Nat}{v:aA}{l:List UInt8}{w:ah}(h:OwnB B v l w):(convert 49 9 v).run ae w=.ok (.string ⟨l.toArray⟩) w:=by
 rcases h.2 with⟨rfl,a⟩|⟨g,cap,c,rfl,d,e,f,i,k,m⟩
 ·have:l=[]:=List.length_eq_zero_iff.1 a
  subst this;exact run_convert_bytes_nil w 49 5 aI aV 0 0 9 aC
 ·refine run_convert_bytes_back w 49 9 5 ⟨g,0,au⟩ cap l aI aV aC ?_
  intro j b;have:=World.ownsRow.cells (w:=w) h rfl j (.int .u8 (l[j].toNat)) (by simp[byteCells,List.getElem?_eq_getElem b]);simpa using this
theorem OwnB.slice {B:Nat}{v:aA}{l:List UInt8}{w:ah}(h:OwnB B v l w):∃a c,v=.slice a l.length c:=by
 rcases h.2 with⟨rfl,b⟩|⟨g,cap,d,rfl,_⟩
 ·rw[b];exact⟨_,_,rfl⟩
 ·exact⟨_,_,rfl⟩
theorem J8:(Tryz.prog.info? 51).map (·.size)=aj 2:=iF
theorem J9 (b:Nat)(w:ah)(c:w.cell? ⟨b,0,au⟩=aj (.pointer (aj ⟨b,0,au⟩))):
  az ae 32 #[.pointer (aj ⟨b,0,au⟩)] w λe w'=>e=.returned (.tuple #[])/\w'=w:=by
 obtain⟨j,a,_⟩:=aP.1 J8;go_enter bC,bz;go_wp2;rw[Lib.run_neq_ptr_same w _ aJ a];go_wp2;go_end0;exact⟨rfl,rfl⟩
theorem Ko (b:Nat)(w:ah)(f:w.cell? ⟨b,0,au⟩=aj (.pointer au))(a:w.shape? b=aj (51,2))(g:w.frozen? ⟨b,0,au⟩=aH):
  az ae 32 #[.pointer (aj ⟨b,0,au⟩)] w λe w'=>e=.returned (.tuple #[])/\w'=w.setCell ⟨b,0,au⟩ (.pointer (aj ⟨b,0,au⟩)):=by
 obtain⟨j,c,d⟩:=aP.1 J8;go_enter bC,bz;go_wp2;rw[Lib.run_to_unsafe w ⟨b,0,au⟩ aJ aT c (by rw[d];decide) a (Nat.zero_lt_succ 1)];simp only[Result.andThen];rw[Oper.upon_value];go_wp2;rw[run_callFunc_extern Tryz.func40 iF iF iF (e:=Extern.AbiNoEscape.same) iF];rw[Lib.run_noEscape];simp only[Result.andThen];rw[Oper.upon_value];go_wp2;rw[Lib.run_from_unsafe w ⟨b,0,au⟩ aT aJ c a iF];simp only[Result.andThen];rw[Oper.upon_value];go_wp2;go_end0;exact⟨rfl,rfl⟩
theorem Wl (B b:Nat)(a:List aA)(w:ah)(h:aZ 51 5 B b a w):
  az ae 32 #[.pointer (aj ⟨b,0,au⟩)] w λe w'=>e=.returned (.tuple #[])/\(Lib.BuilderAt 51 5 B b (.pointer (aj ⟨b,0,au⟩)) a w'/\Below B w w'):=by
 rcases h with h|h
 ·refine(Ko b w h.cell0 h.shape h.frozen0).mono ?_
  rintro e w' ⟨rfl,rfl⟩;exact⟨rfl,h.used _,(Below.refl B w).setCell (p:=⟨b,0,au⟩) h.1 _⟩
 ·refine(J9 b w h.cell0).mono ?_
  rintro e w' ⟨rfl,rfl⟩;exact⟨rfl,h,Below.refl B _⟩
def yD {H:Type}:List aA->Option (aN H×List aW)
 |[.int .i64 op,.slice (aj ⟨b,o,sp⟩) n c,.bool m]=>if o=0/\sp.isNone=true then aj (.agg [.lit (.int .i64 op),.lit (.int .i64 b),.lit (.int .i64 n),.lit (.int .i64 c),.lit (.bool m)],[])else au
 |[.int .i64 op,.slice au n c,.bool m]=>if n=0/\c=0 then aj (.agg [.lit (.int .i64 op),.lit (.bool m)],[])else au
 |_=>au
def qL {H:Type}:aA->Option (aN H×List aW)
 |.agg a=>yD a.toList
 |_=>au
def xu:Array aA:=#[.func (.func 22) #[] #[],.func (.func 23) #[] #[]]
def yE:Array aA:=#[.func (.func 24) #[] #[],.func (.func 25) #[] #[]]
def zH:Array aA:=#[.func (.func 26) #[] #[],.func (.func 27) #[] #[]]
def BM:Array aA:=#[.func (.func 28) #[] #[],.func (.func 29) #[] #[]]
def rG:Nat->Array aA
 |0=>#[.func (.func 22) #[] #[],.func (.func 23) #[] #[],.func (.func 24) #[] #[],.func (.func 25) #[] #[],.func (.func 28) #[] #[],.func (.func 29) #[] #[]]
 |1=>#[.func (.func 22) #[] #[],.func (.func 23) #[] #[]]
 |2=>#[.func (.func 22) #[] #[],.func (.func 23) #[] #[],.func (.func 24) #[] #[],.func (.func 25) #[] #[],.func (.func 22) #[] #[],.func (.func 23) #[] #[]]
 |3=>#[.func (.func 22) #[] #[],.func (.func 23) #[] #[],.func (.func 22) #[] #[],.func (.func 23) #[] #[]]
 |4=>#[.func (.func 22) #[] #[],.func (.func 23) #[] #[],.func (.func 24) #[] #[],.func (.func 25) #[] #[]]
 |5=>#[.func (.func 22) #[] #[],.func (.func 23) #[] #[],.func (.func 24) #[] #[],.func (.func 25) #[] #[]]
 |6=>#[.func (.func 22) #[] #[],.func (.func 23) #[] #[],.func (.func 26) #[] #[],.func (.func 27) #[] #[]]
 |7=>#[.func (.func 22) #[] #[],.func (.func 23) #[] #[],.func (.func 26) #[] #[],.func (.func 27) #[] #[],.func (.func 28) #[] #[],.func (.func 29) #[] #[]]
 |8=>#[.func (.func 22) #[] #[],.func (.func 23) #[] #[],.func (.func 26) #[] #[],.func (.func 27) #[] #[],.func (.func 28) #[] #[],.func (.func 29) #[] #[]]
 |9=>#[.func (.func 22) #[] #[],.func (.func 23) #[] #[],.func (.func 26) #[] #[],.func (.func 27) #[] #[]]
 |10=>#[.func (.func 22) #[] #[],.func (.func 23) #[] #[],.func (.func 22) #[] #[],.func (.func 23) #[] #[]]
 |11=>#[.func (.func 22) #[] #[],.func (.func 23) #[] #[],.func (.func 22) #[] #[],.func (.func 23) #[] #[],.func (.func 22) #[] #[],.func (.func 23) #[] #[],.func (.func 22) #[] #[],.func (.func 23) #[] #[]]
 |12=>#[.func (.func 22) #[] #[],.func (.func 23) #[] #[]]
 |13=>#[.func (.func 22) #[] #[],.func (.func 23) #[] #[],.func (.func 28) #[] #[],.func (.func 29) #[] #[]]
 |14=>#[.func (.func 22) #[] #[],.func (.func 23) #[] #[]]
 |_=>#[]
def mQ {H:Type}(B:Nat):Nat->aN H
 |0=>.agg [.lit (.int .i64 1),.lit (.int .i64 ((B+5:Nat):Int)),.lit (.int .i64 3),.lit (.int .i64 3),.lit (.bool aH)]
 |1=>.agg [.lit (.int .i64 2),.lit (.int .i64 ((B+6:Nat):Int)),.lit (.int .i64 1),.lit (.int .i64 1),.lit (.bool aH)]
 |2=>.agg [.lit (.int .i64 3),.lit (.int .i64 ((B+7:Nat):Int)),.lit (.int .i64 3),.lit (.int .i64 3),.lit (.bool aH)]
 |3=>.agg [.lit (.int .i64 4),.lit (.int .i64 ((B+8:Nat):Int)),.lit (.int .i64 2),.lit (.int .i64 2),.lit (.bool aH)]
 |4=>.agg [.lit (.int .i64 5),.lit (.int .i64 ((B+9:Nat):Int)),.lit (.int .i64 2),.lit (.int .i64 2),.lit (.bool aH)]
 |5=>.agg [.lit (.int .i64 6),.lit (.int .i64 ((B+10:Nat):Int)),.lit (.int .i64 2),.lit (.int .i64 2),.lit (.bool aH)]
 |6=>.agg [.lit (.int .i64 7),.lit (.int .i64 ((B+11:Nat):Int)),.lit (.int .i64 2),.lit (.int .i64 2),.lit (.bool aH)]
 |7=>.agg [.lit (.int .i64 8),.lit (.int .i64 ((B+12:Nat):Int)),.lit (.int .i64 3),.lit (.int .i64 3),.lit (.bool aH)]
 |8=>.agg [.lit (.int .i64 9),.lit (.int .i64 ((B+13:Nat):Int)),.lit (.int .i64 3),.lit (.int .i64 3),.lit (.bool aH)]
 |9=>.agg [.lit (.int .i64 10),.lit (.int .i64 ((B+14:Nat):Int)),.lit (.int .i64 2),.lit (.int .i64 2),.lit (.bool aH)]
 |10=>.agg [.lit (.int .i64 11),.lit (.int .i64 ((B+15:Nat):Int)),.lit (.int .i64 2),.lit (.int .i64 2),.lit (.bool aH)]
 |11=>.agg [.lit (.int .i64 12),.lit (.int .i64 ((B+16:Nat):Int)),.lit (.int .i64 4),.lit (.int .i64 4),.lit (.bool aH)]
 |12=>.agg [.lit (.int .i64 13),.lit (.int .i64 ((B+17:Nat):Int)),.lit (.int .i64 1),.lit (.int .i64 1),.lit (.bool true)]
 |13=>.agg [.lit (.int .i64 14),.lit (.int .i64 ((B+18:Nat):Int)),.lit (.int .i64 2),.lit (.int .i64 2),.lit (.bool aH)]
 |14=>.agg [.lit (.int .i64 15),.lit (.int .i64 ((B+19:Nat):Int)),.lit (.int .i64 1),.lit (.int .i64 1),.lit (.bool aH)]
 |_=>.nil
def wo:Nat->List UInt8
 |0=>[108,111,97,100]
 |1=>[100,114,111,112]
 |2=>[99,111,110,118,101,114,116]
 |3=>[98,97,99,107]
 |4=>[99,104,101,99,107]
 |5=>[112,108,97,110]
 |6=>[103,101,116]
 |7=>[115,101,116]
 |8=>[105,110,115,101,114,116]
 |9=>[114,101,109,111,118,101]
 |10=>[100,105,102,102]
 |11=>[109,101,114,103,101]
 |12=>[105,110,102,101,114]
 |13=>[118,97,108,105,100,97,116,101]
 |14=>[112,114,105,110,116]
 |_=>[]
def qM {H:Type}(B:Nat):Nat->aN H
 |0=>.map []
 |k+1=>(qM B k).put (.string (wo k)) (mQ B k)
structure FI (w0 w:ah)(k:Nat):Prop where
 size:w.heap.size=w0.heap.size+5+k
 n:w.heap[w0.heap.size]?=aj (.cells xu 66)
 f:w.heap[w0.heap.size+1]?=aj (.cells yE 66)
 p:w.heap[w0.heap.size+2]?=aj (.cells zH 66)
 t:w.heap[w0.heap.size+3]?=aj (.cells BM 66)
 below:Below w0.heap.size w0 w
 own:w.ownsMap (H:=Unit) ae 9 qL (w0.heap.size+4) k (qM w0.heap.size k)
 rows:∀j,j<k->w.heap[w0.heap.size+5+j]?=aj (.cells (rG j) 66)
theorem FI.step {w0 w a:ah}{k:Nat}(h:FI w0 w k)(hs:a.heap.size=(w.alloc (.cells (rG k) 66)).heap.size)(d:(w.alloc (.cells (rG k) 66)).grownBy a (aj (w0.heap.size+4)))
  (i:a.ownsMap (H:=Unit) ae 9 qL (w0.heap.size+4) (k+1) (qM w0.heap.size (k+1))):FI w0 a (k+1):=by
 have c:∀b,b<w.heap.size->b≠w0.heap.size+4->a.heap[b]?=w.heap[b]?:=λb g l=>by rw[d.block b iI (λe=>l (Option.some.inj e)),ay w _ b g]
 have m:=h.size;refine⟨by rw[hs];simp;omega,?_,?_,?_,?_,?_,i,?_⟩
 ·rw[c _ iE iE];exact h.n
 ·rw[c _ iE iE];exact h.f
 ·rw[c _ iE iE];exact h.p
 ·rw[c _ iE iE];exact h.t
 ·exact(h.below.alloc iE _).grown d iI (λb g=>by have e:=Option.some.inj g;omega)
 ·intro j o
  by_cases e:j=k
  ·subst e
   rw[show w0.heap.size+5+j=w.heap.size by omega,d.block _ iH (λe=>by have:=Option.some.inj e;omega)];exact aB w _
  ·rw[c _ iE iE];exact h.rows j iE
theorem RJ {w:ah}{k e t:TypeId}{R:aA->Option (aN Unit×List aW)}{b n:Nat}{D:aN Unit}(h:w.ownsMap ae k R b n D)(K:Maps.Keyed ae k)(a:Tryz.prog.underlying t=aj (.map k e))(hn:n<maxLen){key val:aA}{kl:Lit}{d:aN Unit}{ps:List aW}
  (c:keyOf ae k key=aj kl)(hv:R val=aj (d,ps)):∃w',(Instr.mapUpdate t (.map (aj b)) key val).run ae w=.ok () w'/\w'.ownsMap ae k R b (n+1) (D.put kl d)/\w.grownBy w' (aj b)/\w'.heap.size=w.heap.size:=by
 obtain⟨w',f,i,j⟩:=h.update K a hn c hv;obtain⟨es,o,l,F,hs,rfl⟩:=h;obtain⟨p,q,g,-,-,-⟩:=Maps.fit_store (R':=R) K a l F (Nat.lt_of_le_of_lt hs hn) (λ_ _ _ _ m=>m) c hv;rw[f]at g;have e:w'=_:=(Result.ok.inj g).2;refine⟨w',f,i,j,?_⟩;rw[e];simp[ChangeMaps.setBlock]
theorem oU {ops:Array aS}{rest:List aS}{o:aS}{a:Act}{Q:Exit->Act->ah->Prop}(w:ah)(c:o.guard=au)(m x v:bD)(e:o.op=Op.insert 41 m x v)(b n:Nat)(D:aN Unit)
  (hm:a.eval m=.map (aj b))(f:w.ownsMap (H:=Unit) ae 9 qL b n D)(hn:n<1000)(s:ByteArray)(hx:a.eval x=.string s)(val:aA)(hv:a.eval v=val)(d:aN Unit)(hval:qL val=aj (d,[]))(hs:s.size<=maxLen)
  (hK:∀w',w'.ownsMap (H:=Unit) ae 9 qL b (n+1) (D.put (.string s.data.toList) d)->w.grownBy w' (aj b)->w'.heap.size=w.heap.size->wpList ae ops Q rest (a.put o.dst undef) w'):
  wpList ae ops Q (o::rest) a w:=by
 refine wpList_plain c λK' hK'=>?_
 obtain⟨w',g,r1,r2,h⟩:=RJ f (Maps.string_keyed aC) Tryz.underlying41 (by unfold maxLen;omega) (key:=.string s) (kl:=.string s.data.toList) (by simp[keyOf,mapKey,aC,hs]) hval;unfold Oper.wp;simp[execOp,e,hm,hx,hv,g,Result.andThen];exact hK' _ _ (hK w' r1 r2 h)
theorem FI.cells {w0 w:ah}{k:Nat}(h:FI w0 w k):w.cell? ⟨w0.heap.size,0,au⟩=aj (.func (.func 22) #[] #[])/\w.cell? ⟨w0.heap.size,1,au⟩=aj (.func (.func 23) #[] #[])
  /\w.cell? ⟨w0.heap.size+1,0,au⟩=aj (.func (.func 24) #[] #[])/\w.cell? ⟨w0.heap.size+1,1,au⟩=aj (.func (.func 25) #[] #[])
  /\w.cell? ⟨w0.heap.size+1+1,0,au⟩=aj (.func (.func 26) #[] #[])/\w.cell? ⟨w0.heap.size+1+1,1,au⟩=aj (.func (.func 27) #[] #[])
  /\w.cell? ⟨w0.heap.size+1+1+1,0,au⟩=aj (.func (.func 28) #[] #[])/\w.cell? ⟨w0.heap.size+1+1+1,1,au⟩=aj (.func (.func 29) #[] #[]):=by
 refine⟨?_,?_,?_,?_,?_,?_,?_,?_⟩
 ·rw[ax h.n];rfl
 ·rw[ax h.n];rfl
 ·rw[ax h.f];rfl
 ·rw[ax h.f];rfl
 ·exact(ax h.p _).trans rfl
 ·exact(ax h.p _).trans rfl
 ·exact(ax h.t _).trans rfl
 ·exact(ax h.t _).trans rfl
def W0 (w:ah):ah:=((((w.alloc (.cells xu 66)).alloc (.cells yE 66)).alloc (.cells zH 66)).alloc (.cells BM 66)).alloc (.map #[] 0)
theorem zI (w:ah):FI w (W0 w) 0:=by
 have a:(w.alloc (.cells xu 66)).heap.size=w.heap.size+1:=iH
 have b:((w.alloc (.cells xu 66)).alloc (.cells yE 66)).heap.size=w.heap.size+2:=iH
 have c:(((w.alloc (.cells xu 66)).alloc (.cells yE 66)).alloc (.cells zH 66)).heap.size=w.heap.size+3:=iH
 have d:((((w.alloc (.cells xu 66)).alloc (.cells yE 66)).alloc (.cells zH 66)).alloc (.cells BM 66)).heap.size=w.heap.size+4:=iH
 unfold W0;refine⟨iH,?_,?_,?_,?_,?_,?_,λj e=>absurd e (Nat.not_lt_zero j)⟩
 ·rw[ay _ _ _ iE,ay _ _ _ iE,ay _ _ _ iE,ay _ _ _ iE]
  exact aB w _
 ·rw[ay _ _ _ iE,ay _ _ _ iE,ay _ _ _ iE,<-a]
  exact aB _ _
 ·rw[ay _ _ _ iE,ay _ _ _ iE,<-b]
  exact aB _ _
 ·rw[ay _ _ _ iE,<-c]
  exact aB _ _
 ·exact(((((Below.refl _ w).alloc (Nat.le_refl _) _).alloc iE _).alloc iE _).alloc iE _).alloc iE _
 ·have:=World.ownsMap_made (H:=Unit) ((((w.alloc (.cells xu 66)).alloc (.cells yE 66)).alloc (.cells zH 66)).alloc (.cells BM 66)) ae 9 qL
  rw[d]at this;exact this
theorem RN (w:ah):az ae 13 #[] w λe w'=>e=.returned (.map (aj (w.heap.size+4)))/\FI w w' 15:=by
 have D:=@run_makeMap ae;have zI:=zI w;go_enter Tryz.func13,Tryz.ntmps13;dsimp only[List.append]
 go_wp2_with(refine oU _ rfl _ _ _ rfl (w.heap.size+4) 0 _ rfl (zI.own.alloc _) iG _ rfl _ rfl (mQ w.heap.size 0) rfl (by unfold maxLen;decide) ?_)
 intro E a b hs;have n:=FI.step zI (hs.trans (by simp[W0])) b a;clear a b hs zI D;have d:=af n.size;have a:=af n.own;obtain⟨f,g,h,i,j,k,l,m⟩:=n.cells;have c:=af n;clear n
 go_wp2_with(refine oU _ rfl _ _ _ rfl (w.heap.size+4) 1 _ rfl (a.out.alloc _) iG _ rfl _ rfl (mQ w.heap.size 1) (by rw[d.out];rfl) (by unfold maxLen;decide) ?_)
 clear f g h i j k l m d a;intro F a b hs;have o:=FI.step c.out (hs.trans iH) b a;clear a b hs c;have d:=af o.size;have a:=af o.own;obtain⟨f,g,h,i,j,k,l,m⟩:=o.cells;have c:=af o;clear o
 go_wp2_with(refine oU _ rfl _ _ _ rfl (w.heap.size+4) 2 _ rfl (a.out.alloc _) iG _ rfl _ rfl (mQ w.heap.size 2) (by rw[d.out];rfl) (by unfold maxLen;decide) ?_)
 clear f g h i j k l m d a;intro w3 a b hs;have p:=FI.step c.out (hs.trans iH) b a;clear a b hs c;have d:=af p.size;have a:=af p.own;obtain⟨f,g,h,i,j,k,l,m⟩:=p.cells;have c:=af p;clear p
 go_wp2_with(refine oU _ rfl _ _ _ rfl (w.heap.size+4) 3 _ rfl (a.out.alloc _) iG _ rfl _ rfl (mQ w.heap.size 3) (by rw[d.out];rfl) (by unfold maxLen;decide) ?_)
 clear f g h i j k l m d a;intro G a b hs;have q:=FI.step c.out (hs.trans iH) b a;clear a b hs c;have d:=af q.size;have a:=af q.own;obtain⟨f,g,h,i,j,k,l,m⟩:=q.cells;have c:=af q;clear q
 go_wp2_with(refine oU _ rfl _ _ _ rfl (w.heap.size+4) 4 _ rfl (a.out.alloc _) iG _ rfl _ rfl (mQ w.heap.size 4) (by rw[d.out];rfl) (by unfold maxLen;decide) ?_)
 clear f g h i j k l m d a;intro H a b hs;have r:=FI.step c.out (hs.trans iH) b a;clear a b hs c;have d:=af r.size;have a:=af r.own;obtain⟨f,g,h,i,j,k,l,m⟩:=r.cells;have c:=af r;clear r
 go_wp2_with(refine oU _ rfl _ _ _ rfl (w.heap.size+4) 5 _ rfl (a.out.alloc _) iG _ rfl _ rfl (mQ w.heap.size 5) (by rw[d.out];rfl) (by unfold maxLen;decide) ?_)
 clear f g h i j k l m d a;intro I a b hs;have s:=FI.step c.out (hs.trans iH) b a;clear a b hs c;have d:=af s.size;have a:=af s.own;obtain⟨f,g,h,i,j,k,l,m⟩:=s.cells;have c:=af s;clear s
 go_wp2_with(refine oU _ rfl _ _ _ rfl (w.heap.size+4) 6 _ rfl (a.out.alloc _) iG _ rfl _ rfl (mQ w.heap.size 6) (by rw[d.out];rfl) (by unfold maxLen;decide) ?_)
 clear f g h i j k l m d a;intro J a b hs;have t:=FI.step c.out (hs.trans iH) b a;clear a b hs c;have d:=af t.size;have a:=af t.own;obtain⟨f,g,h,i,j,k,l,m⟩:=t.cells;have c:=af t;clear t
 go_wp2_with(refine oU _ rfl _ _ _ rfl (w.heap.size+4) 7 _ rfl (a.out.alloc _) iG _ rfl _ rfl (mQ w.heap.size 7) (by rw[d.out];rfl) (by unfold maxLen;decide) ?_)
 clear f g h i j k l m d a;intro K a b hs;have u:=FI.step c.out (hs.trans iH) b a;clear a b hs c;have d:=af u.size;have a:=af u.own;obtain⟨f,g,h,i,j,k,l,m⟩:=u.cells;have c:=af u;clear u
 go_wp2_with(refine oU _ rfl _ _ _ rfl (w.heap.size+4) 8 _ rfl (a.out.alloc _) iG _ rfl _ rfl (mQ w.heap.size 8) (by rw[d.out];rfl) (by unfold maxLen;decide) ?_)
 clear f g h i j k l m d a;intro L a b hs;have v:=FI.step c.out (hs.trans iH) b a;clear a b hs c;have d:=af v.size;have a:=af v.own;obtain⟨f,g,h,i,j,k,l,m⟩:=v.cells;have c:=af v;clear v
 go_wp2_with(refine oU _ rfl _ _ _ rfl (w.heap.size+4) 9 _ rfl (a.out.alloc _) iG _ rfl _ rfl (mQ w.heap.size 9) (by rw[d.out];rfl) (by unfold maxLen;decide) ?_)
 clear f g h i j k l m d a;intro M a b hs;have x:=FI.step c.out (hs.trans iH) b a;clear a b hs c;have d:=af x.size;have a:=af x.own;obtain⟨f,g,h,i,j,k,l,m⟩:=x.cells;have c:=af x;clear x
 go_wp2_with(refine oU _ rfl _ _ _ rfl (w.heap.size+4) 10 _ rfl (a.out.alloc _) iG _ rfl _ rfl (mQ w.heap.size 10) (by rw[d.out];rfl) (by unfold maxLen;decide) ?_)
 clear f g h i j k l m d a;intro N a b hs;have y:=FI.step c.out (hs.trans iH) b a;clear a b hs c;have d:=af y.size;have a:=af y.own;obtain⟨f,g,h,i,j,k,l,m⟩:=y.cells;have c:=af y;clear y
 go_wp2_with(refine oU _ rfl _ _ _ rfl (w.heap.size+4) 11 _ rfl (a.out.alloc _) iG _ rfl _ rfl (mQ w.heap.size 11) (by rw[d.out];rfl) (by unfold maxLen;decide) ?_)
 clear f g h i j k l m d a;intro O a b hs;have z:=FI.step c.out (hs.trans iH) b a;clear a b hs c;have d:=af z.size;have a:=af z.own;obtain⟨f,g,h,i,j,k,l,m⟩:=z.cells;have c:=af z;clear z
 go_wp2_with(refine oU _ rfl _ _ _ rfl (w.heap.size+4) 12 _ rfl (a.out.alloc _) iG _ rfl _ rfl (mQ w.heap.size 12) (by rw[d.out];rfl) (by unfold maxLen;decide) ?_)
 clear f g h i j k l m d a;intro P a b hs;have A:=FI.step c.out (hs.trans iH) b a;clear a b hs c;have d:=af A.size;have a:=af A.own;obtain⟨f,g,h,i,j,k,l,m⟩:=A.cells;have c:=af A;clear A
 go_wp2_with(refine oU _ rfl _ _ _ rfl (w.heap.size+4) 13 _ rfl (a.out.alloc _) iG _ rfl _ rfl (mQ w.heap.size 13) (by rw[d.out];rfl) (by unfold maxLen;decide) ?_)
 clear f g h i j k l m d a;intro Q a b hs;have B:=FI.step c.out (hs.trans iH) b a;clear a b hs c;have d:=af B.size;have a:=af B.own;obtain⟨f,g,h,i,j,k,l,m⟩:=B.cells;have c:=af B;clear B
 go_wp2_with(refine oU _ rfl _ _ _ rfl (w.heap.size+4) 14 _ rfl (a.out.alloc _) iG _ rfl _ rfl (mQ w.heap.size 14) (by rw[d.out];rfl) (by unfold maxLen;decide) ?_)
 clear f g h i j k l m d a;intro R a b hs;have C:=FI.step c.out (hs.trans iH) b a;clear a b hs c;have c:=af C;clear C;go_wp2;go_ret;exact⟨rfl,c.out⟩
end Go.Proofs.YthcalnnipjflkaaGreatDoor
