/-
  DERIVED: THE SHELF's CONTRACTS AT THIS DUMP, IN PLAIN WORDS (tools/lay-plain.mjs out of 'TryzShelf.lean', which tools/lay-shelf.mjs wrote): THE SAME DECLARATIONS UNDER THE SAME NAMES: 'import', 'namespace', 'open', 'def', 'theorem' AND NOTHING ELSE: no command of the shelf's: FOR A HAND-IN. Each laying: the table of numbers ('.._ren') and one theorem, a field a fact of the dump's own or the kernel's comparison; each contract: ONE APPLICATION.
-/
import Derived.Shelf.Strings.Builder1
import Derived.Shelf.Small.Utf8
import Derived.Shelf.Small.Strs
import Derived.Shelf.Small.Wraps
import Derived.Shelf.Strings.BuilderF
import Derived.Shelf.Strings.BuilderK
import Derived.Shelf.Strings.Search1
import Derived.Shelf.Strings.Search2
import Derived.Shelf.Strings.Search3
import Derived.Shelf.Strings.Cut
import Derived.Shelf.LaysM
import Derived.Shelf.Strings.Shaped
import Derived.Shelf.Strings.Prefix
import Derived.Shelf.Strings.Runes
import Derived.Shelf.Strings.IndexAny
import Derived.Shelf.Strings.AsciiSet
import Derived.Shelf.Strings.IndexAnyAll
import Derived.Shelf.Bits.Mul64
import Derived.Shelf.Unicode.DecodeSlow
import Derived.Shelf.Unicode.DecodeAny
import Derived.Test.YtfnemklcmhilnaaGreatDoorProg
namespace Go.Proofs
open Go.Shelf
def Tryz.lays170_ren : Go.Shelf.Ren := ⟨fun | 170 => 10 | n => n, fun | 70 => 36 | 3 => 3 | 0 => 0 | 72 => 39 | 37 => 37 | 5 => 5 | n => n, fun | n => n⟩
theorem Tryz.lays170 : Go.Proofs.Lays.n170 Tryz.prog Tryz.lays170_ren := {
  mixed := by kernel_rfl
  f170 := Tryz.func10.trans (congrArg some (by kernel_rfl))
  t0 := Tryz.underlying0
  a0 := Tryz.isAgg0
  z0 := Tryz.sizeOf0
  v0 := Tryz.zeroValue0
  t3 := Tryz.underlying3
  a3 := Tryz.isAgg3
  z3 := Tryz.sizeOf3
  v3 := Tryz.zeroValue3
  t37 := Tryz.underlying37
  a37 := Tryz.isAgg37
  z37 := Tryz.sizeOf37
  v37 := Tryz.zeroValue37
  t70 := Tryz.underlying36
  a70 := Tryz.isAgg36
  z70 := Tryz.sizeOf36
  v70 := Tryz.zeroValue36
  t72 := Tryz.underlying39
  a72 := Tryz.isAgg39
  z72 := Tryz.sizeOf39
  v72 := Tryz.zeroValue39 }
open Go.RowKit in
/-- (*strings.Builder).Len: "Len returns the number of accumulated bytes; b.Len() == len(b.String()).": the world is as it was. (LAID: no walk: one application.) -/
theorem Tryz.Builder_Len (B b : Nat) (bs : List Value) (w : World) (h : Lib.IsBuilder 39 5 B b bs w) :
    Calls Tryz.prog 10 #[.pointer (some ⟨b, 0, none⟩)] w fun e w' => e = .returned (.int .i64 bs.length) ∧ w' = w := Any.Builder_Len Tryz.lays170 B b bs w h
def Tryz.lays169_ren : Go.Shelf.Ren := ⟨fun | 169 => 11 | n => n, fun | 70 => 36 | 9 => 9 | 0 => 0 | 72 => 39 | 37 => 37 | 127 => 64 | 3 => 3 | 5 => 5 | n => n, fun | n => n⟩
theorem Tryz.lays169 : Go.Proofs.Lays.n169 Tryz.prog Tryz.lays169_ren := {
  mixed := by kernel_rfl
  f169 := Tryz.func11.trans (congrArg some (by kernel_rfl))
  t0 := Tryz.underlying0
  a0 := Tryz.isAgg0
  z0 := Tryz.sizeOf0
  v0 := Tryz.zeroValue0
  t3 := Tryz.underlying3
  a3 := Tryz.isAgg3
  z3 := Tryz.sizeOf3
  v3 := Tryz.zeroValue3
  t9 := Tryz.underlying9
  a9 := Tryz.isAgg9
  z9 := Tryz.sizeOf9
  v9 := Tryz.zeroValue9
  t37 := Tryz.underlying37
  a37 := Tryz.isAgg37
  z37 := Tryz.sizeOf37
  v37 := Tryz.zeroValue37
  t70 := Tryz.underlying36
  a70 := Tryz.isAgg36
  z70 := Tryz.sizeOf36
  v70 := Tryz.zeroValue36
  t72 := Tryz.underlying39
  a72 := Tryz.isAgg39
  z72 := Tryz.sizeOf39
  v72 := Tryz.zeroValue39
  t127 := Tryz.underlying64
  a127 := Tryz.isAgg64
  z127 := Tryz.sizeOf64
  v127 := Tryz.zeroValue64 }
theorem Tryz.Builder_Extra_169 : Builder.Extra Tryz.prog Tryz.lays169_ren := {
  sizeBuilder := by kernel_rfl
  liesBuilder := by kernel_rfl
  t5 := Tryz.underlying5
  a5 := Tryz.isAgg5
  z5 := Tryz.sizeOf5
  v5 := Tryz.zeroValue5
  infoByte := by kernel_rfl
  cellsByte := by kernel_rfl
  sizeByte := by kernel_rfl
  neB5 := by decide }
open Go.RowKit in
/-- (*strings.Builder).String: "String returns the accumulated string.": WHATEVER THE BUILDER HOLDS. (LAID: no walk: one application.) -/
theorem Tryz.Builder_String_any (B b : Nat) (l : List UInt8) (w : World) (h : Lib.IsBuilder 39 5 B b (Lib.byteCells l) w) (hBw : B ≤ w.heap.size) :
    Calls Tryz.prog 11 #[.pointer (some ⟨b, 0, none⟩)] w fun e w' => e = .returned (.string ⟨l.toArray⟩) ∧ Below B w w' := Any.Builder_String_any Tryz.lays169 Tryz.Builder_Extra_169 B b l w h hBw
def Tryz.lays137_ren : Go.Shelf.Ren := ⟨fun | 137 => 41 | 217 => 37 | 266 => 43 | n => n, fun | 9 => 9 | 5 => 5 | 3 => 3 | n => n, fun | n => n⟩
theorem Tryz.lays137 : Go.Proofs.Lays.n137 Tryz.prog Tryz.lays137_ren := {
  mixed := by kernel_rfl
  f137 := Tryz.func41.trans (congrArg some (by kernel_rfl))
  f217 := Tryz.func37.trans (congrArg some (by kernel_rfl))
  f266 := Tryz.func43.trans (congrArg some (by kernel_rfl))
  t3 := Tryz.underlying3
  a3 := Tryz.isAgg3
  z3 := Tryz.sizeOf3
  v3 := Tryz.zeroValue3
  t5 := Tryz.underlying5
  a5 := Tryz.isAgg5
  z5 := Tryz.sizeOf5
  v5 := Tryz.zeroValue5
  t9 := Tryz.underlying9
  a9 := Tryz.isAgg9
  z9 := Tryz.sizeOf9
  v9 := Tryz.zeroValue9 }
open Go.RowKit in
/-- strings.IndexByte: "IndexByte returns the index of the first instance of c in s, or -1 if c is not present in s.": IT RETURNS 'Lib.indexByte s c'; the world is as it was. (LAID: no walk: one application.) -/
theorem Tryz.strings_IndexByte (s : ByteArray) (c : Int) (w : World) :
    Calls Tryz.prog 41 #[.string s, .int .u8 c] w fun e w' => e = .returned (.int .i64 (Lib.indexByte s.data.toList c.toNat.toUInt8)) ∧ w' = w := Any.strings_IndexByte Tryz.lays137 s c w
def Tryz.lays103_ren : Go.Shelf.Ren := ⟨fun | 103 => 45 | 210 => 48 | 206 => 54 | n => n, fun | 9 => 9 | 4 => 4 | 24 => 40 | 3 => 3 | n => n, fun | n => n⟩
theorem Tryz.lays103 : Go.Proofs.Lays.n103 Tryz.prog Tryz.lays103_ren := {
  mixed := by kernel_rfl
  f103 := Tryz.func45.trans (congrArg some (by kernel_rfl))
  f206 := Tryz.func54.trans (congrArg some (by kernel_rfl))
  f210 := Tryz.func48.trans (congrArg some (by kernel_rfl))
  t3 := Tryz.underlying3
  a3 := Tryz.isAgg3
  z3 := Tryz.sizeOf3
  v3 := Tryz.zeroValue3
  t4 := Tryz.underlying4
  a4 := Tryz.isAgg4
  z4 := Tryz.sizeOf4
  v4 := Tryz.zeroValue4
  t9 := Tryz.underlying9
  a9 := Tryz.isAgg9
  z9 := Tryz.sizeOf9
  v9 := Tryz.zeroValue9
  t24 := Tryz.underlying40
  a24 := Tryz.isAgg40
  z24 := Tryz.sizeOf40
  v24 := Tryz.zeroValue40 }
open Go.RowKit in
/-- strings.CutPrefix: "CutPrefix returns s without the provided leading prefix string and reports whether it found the prefix. If s doesn't start with prefix, CutPrefix returns s, false. If prefix is the empty string, CutPrefix returns s, true.": IT RETURNS '(Lib.trimPrefix s p, Lib.hasPrefix s p)'; the world is as it was. (LAID: no walk: one application.) -/
theorem Tryz.strings_CutPrefix (s p : ByteArray) (w : World) :
    Calls Tryz.prog 45 #[.string s, .string p] w fun e w' => e = .returned (.tuple #[.string ⟨(Lib.trimPrefix s.data.toList p.data.toList).toArray⟩, .bool (Lib.hasPrefix s.data.toList p.data.toList)]) ∧ w' = w := Any.strings_CutPrefix Tryz.lays103 s p w
def Tryz.lays104_ren : Go.Shelf.Ren := ⟨fun | 104 => 59 | 211 => 71 | 207 => 88 | n => n, fun | 9 => 9 | 4 => 4 | 24 => 40 | 3 => 3 | n => n, fun | n => n⟩
theorem Tryz.lays104 : Go.Proofs.Lays.n104 Tryz.prog Tryz.lays104_ren := {
  mixed := by kernel_rfl
  f104 := Tryz.func59.trans (congrArg some (by kernel_rfl))
  f207 := Tryz.func88.trans (congrArg some (by kernel_rfl))
  f211 := Tryz.func71.trans (congrArg some (by kernel_rfl))
  t3 := Tryz.underlying3
  a3 := Tryz.isAgg3
  z3 := Tryz.sizeOf3
  v3 := Tryz.zeroValue3
  t4 := Tryz.underlying4
  a4 := Tryz.isAgg4
  z4 := Tryz.sizeOf4
  v4 := Tryz.zeroValue4
  t9 := Tryz.underlying9
  a9 := Tryz.isAgg9
  z9 := Tryz.sizeOf9
  v9 := Tryz.zeroValue9
  t24 := Tryz.underlying40
  a24 := Tryz.isAgg40
  z24 := Tryz.sizeOf40
  v24 := Tryz.zeroValue40 }
open Go.RowKit in
/-- strings.CutSuffix: "CutSuffix returns s without the provided ending suffix string and reports whether it found the suffix. If s doesn't end with suffix, CutSuffix returns s, false. If suffix is the empty string, CutSuffix returns s, true.": IT RETURNS '(Lib.trimSuffix s p, Lib.hasSuffix s p)'; the world is as it was. (LAID: no walk: one application.) -/
theorem Tryz.strings_CutSuffix (s p : ByteArray) (w : World) (hs : s.size ≤ 9223372036854775807) :
    Calls Tryz.prog 59 #[.string s, .string p] w fun e w' => e = .returned (.tuple #[.string ⟨(Lib.trimSuffix s.data.toList p.data.toList).toArray⟩, .bool (Lib.hasSuffix s.data.toList p.data.toList)]) ∧ w' = w := Any.strings_CutSuffix Tryz.lays104 s p w hs
def Tryz.lays219_ren : Go.Shelf.Ren := ⟨fun | 219 => 34 | 217 => 37 | 225 => 38 | 224 => 39 | 267 => 40 | 266 => 43 | 314 => 44 | n => n, fun | 9 => 9 | 3 => 3 | 4 => 4 | 5 => 5 | 46 => 90 | 146 => 100 | 51 => 99 | n => n, fun | 1 => 3 | n => n⟩
theorem Tryz.lays219 : Go.Proofs.Lays.n219 Tryz.prog Tryz.lays219_ren := {
  mixed := by kernel_rfl
  f217 := Tryz.func37.trans (congrArg some (by kernel_rfl))
  f219 := Tryz.func34.trans (congrArg some (by kernel_rfl))
  f224 := Tryz.func39.trans (congrArg some (by kernel_rfl))
  f225 := Tryz.func38.trans (congrArg some (by kernel_rfl))
  f266 := Tryz.func43.trans (congrArg some (by kernel_rfl))
  f267 := Tryz.func40.trans (congrArg some (by kernel_rfl))
  f314 := Tryz.func44.trans (congrArg some (by kernel_rfl))
  t3 := Tryz.underlying3
  a3 := Tryz.isAgg3
  z3 := Tryz.sizeOf3
  v3 := Tryz.zeroValue3
  t4 := Tryz.underlying4
  a4 := Tryz.isAgg4
  z4 := Tryz.sizeOf4
  v4 := Tryz.zeroValue4
  t5 := Tryz.underlying5
  a5 := Tryz.isAgg5
  z5 := Tryz.sizeOf5
  v5 := Tryz.zeroValue5
  t9 := Tryz.underlying9
  a9 := Tryz.isAgg9
  z9 := Tryz.sizeOf9
  v9 := Tryz.zeroValue9
  t46 := Tryz.underlying90
  a46 := Tryz.isAgg90
  z46 := Tryz.sizeOf90
  v46 := Tryz.zeroValue90
  t51 := Tryz.underlying99
  a51 := Tryz.isAgg99
  z51 := Tryz.sizeOf99
  v51 := Tryz.zeroValue99
  t146 := Tryz.underlying100
  a146 := Tryz.isAgg100
  z146 := Tryz.sizeOf100
  v146 := Tryz.zeroValue100
  g1 := by kernel_rfl }
open Go.RowKit Go.Lib in
/-- internal/stringslite.Index (what strings.Index calls) AT A substr OF ONE BYTE c: IT RETURNS 'Lib.indexByte s c'; the world is as it was. (LAID: no walk: one application.) -/
theorem Tryz.stringslite_Index_one (s : ByteArray) (c : UInt8) (w : World) :
    Calls Tryz.prog 34 #[.string s, .string ⟨#[c]⟩] w fun e w' => e = .returned (.int .i64 (Lib.indexByte s.data.toList c)) ∧ w' = w := Any.stringslite_Index_one Tryz.lays219 s c w
def Tryz.lays197_ren : Go.Shelf.Ren := ⟨fun | 197 => 24 | 260 => 33 | n => n, fun | 9 => 9 | 21 => 21 | 3 => 3 | 4 => 4 | 5 => 5 | 105 => 65 | 119 => 91 | 0 => 0 | 46 => 90 | 139 => 94 | 138 => 93 | n => n, fun | 3 => 1 | 4 => 2 | n => n⟩
theorem Tryz.lays197 : Go.Proofs.Lays.n197 Tryz.prog Tryz.lays197_ren := {
  mixed := by kernel_rfl
  f197 := Tryz.func24.trans (congrArg some (by kernel_rfl))
  f260 := Tryz.func33.trans (congrArg some (by kernel_rfl))
  t0 := Tryz.underlying0
  a0 := Tryz.isAgg0
  z0 := Tryz.sizeOf0
  v0 := Tryz.zeroValue0
  t3 := Tryz.underlying3
  a3 := Tryz.isAgg3
  z3 := Tryz.sizeOf3
  v3 := Tryz.zeroValue3
  t4 := Tryz.underlying4
  a4 := Tryz.isAgg4
  z4 := Tryz.sizeOf4
  v4 := Tryz.zeroValue4
  t5 := Tryz.underlying5
  a5 := Tryz.isAgg5
  z5 := Tryz.sizeOf5
  v5 := Tryz.zeroValue5
  t9 := Tryz.underlying9
  a9 := Tryz.isAgg9
  z9 := Tryz.sizeOf9
  v9 := Tryz.zeroValue9
  t21 := Tryz.underlying21
  a21 := Tryz.isAgg21
  z21 := Tryz.sizeOf21
  v21 := Tryz.zeroValue21
  t46 := Tryz.underlying90
  a46 := Tryz.isAgg90
  z46 := Tryz.sizeOf90
  v46 := Tryz.zeroValue90
  t105 := Tryz.underlying65
  a105 := Tryz.isAgg65
  z105 := Tryz.sizeOf65
  v105 := Tryz.zeroValue65
  t119 := Tryz.underlying91
  a119 := Tryz.isAgg91
  z119 := Tryz.sizeOf91
  t138 := Tryz.underlying93
  a138 := Tryz.isAgg93
  z138 := Tryz.sizeOf93
  v138 := Tryz.zeroValue93
  t139 := Tryz.underlying94
  a139 := Tryz.isAgg94
  z139 := Tryz.sizeOf94
  v139 := Tryz.zeroValue94
  g3 := by kernel_rfl
  g4 := by kernel_rfl }
open Go.RowKit Go.Lib in
/-- **unicode/utf8.DecodeRuneInString AT EVERY STRING.** (LAID: no walk: one application.) -/
theorem Tryz.utf8_DecodeRuneInString (s : ByteArray) (w : World) (hT : Lib.Utf8Tabs 1 2 w) :
    Calls Tryz.prog 24 #[.string s] w fun e w' => e = .returned (.tuple #[.int .i32 (Lib.decodeGo s).1, .int .i64 (Lib.decodeGo s).2]) ∧ Below w.heap.size w w' := Any.utf8_DecodeRuneInString Tryz.lays197 s w hT
end Go.Proofs
