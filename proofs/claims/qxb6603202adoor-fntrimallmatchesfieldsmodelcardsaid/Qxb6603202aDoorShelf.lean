import Derived.Shelf.Strings.Builder1
import Derived.Shelf.Strings.Builder2
import Derived.Shelf.Strings.TrimSpace
import Derived.Shelf.Small.Utf8
import Derived.Shelf.Strings.BuilderF
import Derived.Shelf.Strings.BuilderK
import Derived.Shelf.Strings.Builder2Cap
import Derived.Shelf.Strings.Search1
import Derived.Shelf.Strings.Search2
import Derived.Shelf.Strings.Search3
import Derived.Shelf.LaysM
import Derived.Shelf.Strings.Shaped
import Derived.Shelf.Unicode.Latin
import Derived.Shelf.Unicode.Decode
import Derived.Shelf.Unicode.DecodeSlow
import Derived.Shelf.Unicode.DecodeAny
import Derived.Shelf.Unicode.Is16White
import Derived.Shelf.Unicode.IsSpaceAny
import Derived.Shelf.Unicode.DecodeLast
import Derived.Shelf.Strings.TrimSpaceAny
import Derived.Shelf.Unicode.Is16WhiteD
import Derived.Shelf.Unicode.IsSpaceAnyD
import Derived.Shelf.Unicode.Is16Any
import Derived.Shelf.Unicode.Is32Any
import Derived.Shelf.Unicode.ExclAny
import Derived.Shelf.Strings.BuilderCap
import Derived.Test.Qxb6603202aDoorProg
namespace Go.Proofs
open Go.Shelf Go.RowKit
def Tryd.lays169_ren : Go.Shelf.Ren := ⟨fun | 169 => 16 | n => n, fun | 70 => 29 | 9 => 9 | 0 => 0 | 72 => 31 | 37 => 25 | 127 => 41 | 3 => 3 | 5 => 5 | n => n, fun | n => n⟩
theorem Tryd.lays169 : Go.Proofs.Lays.n169 Tryd.prog Tryd.lays169_ren := {
  mixed := by kernel_rfl
  f169 := Tryd.func16.trans (congrArg some (by kernel_rfl))
  t0 := Tryd.underlying0
  a0 := Tryd.isAgg0
  z0 := Tryd.sizeOf0
  v0 := Tryd.zeroValue0
  t3 := Tryd.underlying3
  a3 := Tryd.isAgg3
  z3 := Tryd.sizeOf3
  v3 := Tryd.zeroValue3
  t9 := Tryd.underlying9
  a9 := Tryd.isAgg9
  z9 := Tryd.sizeOf9
  v9 := Tryd.zeroValue9
  t37 := Tryd.underlying25
  a37 := Tryd.isAgg25
  z37 := Tryd.sizeOf25
  v37 := Tryd.zeroValue25
  t70 := Tryd.underlying29
  a70 := Tryd.isAgg29
  z70 := Tryd.sizeOf29
  v70 := Tryd.zeroValue29
  t72 := Tryd.underlying31
  a72 := Tryd.isAgg31
  z72 := Tryd.sizeOf31
  v72 := Tryd.zeroValue31
  t127 := Tryd.underlying41
  a127 := Tryd.isAgg41
  z127 := Tryd.sizeOf41
  v127 := Tryd.zeroValue41 }
theorem Tryd.Builder_Extra_169 : Builder.Extra Tryd.prog Tryd.lays169_ren := {
  sizeBuilder := by kernel_rfl
  liesBuilder := by kernel_rfl
  t5 := Tryd.underlying5
  a5 := Tryd.isAgg5
  z5 := Tryd.sizeOf5
  v5 := Tryd.zeroValue5
  infoByte := by kernel_rfl
  cellsByte := by kernel_rfl
  sizeByte := by kernel_rfl
  neB5 := by decide }
theorem Tryd.Builder_String_any (B b : Nat) (l : List UInt8) (w : World) (h : Lib.IsBuilder 31 5 B b (Lib.byteCells l) w) (hBw : B ≤ w.heap.size) :
    Calls Tryd.prog 16 #[.pointer (some ⟨b, 0, none⟩)] w fun e w' => e = .returned (.string ⟨l.toArray⟩) ∧ Below B w w' := Any.Builder_String_any Tryd.lays169 Tryd.Builder_Extra_169 B b l w h hBw
def Tryd.lays165_ren : Go.Shelf.Ren := ⟨fun | 165 => 14 | 240 => 21 | 241 => 22 | 276 => 28 | 277 => 29 | n => n, fun | 70 => 29 | 3 => 3 | 0 => 0 | 4 => 4 | 9 => 9 | 20 => 20 | 72 => 31 | 37 => 25 | 164 => 48 | 5 => 5 | n => n, fun | n => n⟩
theorem Tryd.lays165 : Go.Proofs.Lays.n165 Tryd.prog Tryd.lays165_ren := {
  mixed := by kernel_rfl
  f165 := Tryd.func14.trans (congrArg some (by kernel_rfl))
  f240 := Tryd.func21.trans (congrArg some (by kernel_rfl))
  f241 := Tryd.func22.trans (congrArg some (by kernel_rfl))
  f276 := Tryd.func28.trans (congrArg some (by kernel_rfl))
  f277 := Tryd.func29.trans (congrArg some (by kernel_rfl))
  t0 := Tryd.underlying0
  a0 := Tryd.isAgg0
  z0 := Tryd.sizeOf0
  v0 := Tryd.zeroValue0
  t3 := Tryd.underlying3
  a3 := Tryd.isAgg3
  z3 := Tryd.sizeOf3
  v3 := Tryd.zeroValue3
  t4 := Tryd.underlying4
  a4 := Tryd.isAgg4
  z4 := Tryd.sizeOf4
  v4 := Tryd.zeroValue4
  t9 := Tryd.underlying9
  a9 := Tryd.isAgg9
  z9 := Tryd.sizeOf9
  v9 := Tryd.zeroValue9
  t20 := Tryd.underlying20
  a20 := Tryd.isAgg20
  z20 := Tryd.sizeOf20
  v20 := Tryd.zeroValue20
  t37 := Tryd.underlying25
  a37 := Tryd.isAgg25
  z37 := Tryd.sizeOf25
  v37 := Tryd.zeroValue25
  t70 := Tryd.underlying29
  a70 := Tryd.isAgg29
  z70 := Tryd.sizeOf29
  v70 := Tryd.zeroValue29
  t72 := Tryd.underlying31
  a72 := Tryd.isAgg31
  z72 := Tryd.sizeOf31
  v72 := Tryd.zeroValue31
  t164 := Tryd.underlying48
  a164 := Tryd.isAgg48
  z164 := Tryd.sizeOf48
  v164 := Tryd.zeroValue48 }
theorem Tryd.Builder_Extra_165 : Builder.Extra Tryd.prog Tryd.lays165_ren := {
  sizeBuilder := by kernel_rfl
  liesBuilder := by kernel_rfl
  t5 := Tryd.underlying5
  a5 := Tryd.isAgg5
  z5 := Tryd.sizeOf5
  v5 := Tryd.zeroValue5
  infoByte := by kernel_rfl
  cellsByte := by kernel_rfl
  sizeByte := by kernel_rfl
  neB5 := by decide }
theorem Tryd.Builder_Grow_fresh (B b n : Nat) (w : World) (hB : B ≤ b) (hbk : w.heap[b]? = some (.cells #[.pointer none, .slice none 0 0] 31 (0, 0))) (hBw : B ≤ w.heap.size) (hn : n ≤ 281474976710656) :
    Calls Tryd.prog 14 #[.pointer (some ⟨b, 0, none⟩), .int .i64 n] w fun e w' => e = .returned (.tuple #[]) ∧ (Lib.BuilderAt 31 5 B b (.pointer (some ⟨b, 0, none⟩)) [] w' ∧ Below B w w') := Any.Builder_Grow_fresh Tryd.lays165 Tryd.Builder_Extra_165 B b n w hB hbk hBw hn
def Tryd.lays163_ren : Go.Shelf.Ren := ⟨fun | 163 => 12 | 237 => 17 | 199 => 18 | 238 => 19 | 272 => 23 | 261 => 24 | 273 => 25 | 197 => 26 | 315 => 30 | 311 => 31 | 312 => 32 | 271 => 33 | 260 => 34 | 120 => 39 | n => n, fun | 9 => 9 | 37 => 25 | 3 => 3 | 0 => 0 | 5 => 5 | 4 => 4 | 40 => 38 | 119 => 39 | 21 => 21 | 51 => 42 | 141 => 44 | 105 => 46 | 196 => 54 | 193 => 51 | 198 => 57 | 49 => 55 | 194 => 52 | 201 => 60 | 226 => 65 | 46 => 64 | 227 => 66 | 139 => 69 | 138 => 68 | n => n, fun | 0 => 0 | 6 => 1 | 3 => 3 | 4 => 4 | n => n⟩
theorem Tryd.lays163 : Go.Proofs.Lays.n163 Tryd.prog Tryd.lays163_ren := {
  mixed := by kernel_rfl
  f120 := Tryd.func39.trans (congrArg some (by kernel_rfl))
  f163 := Tryd.func12.trans (congrArg some (by kernel_rfl))
  f197 := Tryd.func26.trans (congrArg some (by kernel_rfl))
  f199 := Tryd.func18.trans (congrArg some (by kernel_rfl))
  f237 := Tryd.func17.trans (congrArg some (by kernel_rfl))
  f238 := Tryd.func19.trans (congrArg some (by kernel_rfl))
  f260 := Tryd.func34.trans (congrArg some (by kernel_rfl))
  f261 := Tryd.func24.trans (congrArg some (by kernel_rfl))
  f271 := Tryd.func33.trans (congrArg some (by kernel_rfl))
  f272 := Tryd.func23.trans (congrArg some (by kernel_rfl))
  f273 := Tryd.func25.trans (congrArg some (by kernel_rfl))
  f311 := Tryd.func31.trans (congrArg some (by kernel_rfl))
  f312 := Tryd.func32.trans (congrArg some (by kernel_rfl))
  f315 := Tryd.func30.trans (congrArg some (by kernel_rfl))
  t0 := Tryd.underlying0
  a0 := Tryd.isAgg0
  z0 := Tryd.sizeOf0
  v0 := Tryd.zeroValue0
  t3 := Tryd.underlying3
  a3 := Tryd.isAgg3
  z3 := Tryd.sizeOf3
  v3 := Tryd.zeroValue3
  t4 := Tryd.underlying4
  a4 := Tryd.isAgg4
  z4 := Tryd.sizeOf4
  v4 := Tryd.zeroValue4
  t5 := Tryd.underlying5
  a5 := Tryd.isAgg5
  z5 := Tryd.sizeOf5
  v5 := Tryd.zeroValue5
  t9 := Tryd.underlying9
  a9 := Tryd.isAgg9
  z9 := Tryd.sizeOf9
  v9 := Tryd.zeroValue9
  t21 := Tryd.underlying21
  a21 := Tryd.isAgg21
  z21 := Tryd.sizeOf21
  v21 := Tryd.zeroValue21
  t37 := Tryd.underlying25
  a37 := Tryd.isAgg25
  z37 := Tryd.sizeOf25
  v37 := Tryd.zeroValue25
  t40 := Tryd.underlying38
  a40 := Tryd.isAgg38
  z40 := Tryd.sizeOf38
  v40 := Tryd.zeroValue38
  t46 := Tryd.underlying64
  a46 := Tryd.isAgg64
  z46 := Tryd.sizeOf64
  v46 := Tryd.zeroValue64
  t49 := Tryd.underlying55
  a49 := Tryd.isAgg55
  z49 := Tryd.sizeOf55
  v49 := Tryd.zeroValue55
  t51 := Tryd.underlying42
  a51 := Tryd.isAgg42
  z51 := Tryd.sizeOf42
  v51 := Tryd.zeroValue42
  t105 := Tryd.underlying46
  a105 := Tryd.isAgg46
  z105 := Tryd.sizeOf46
  v105 := Tryd.zeroValue46
  t119 := Tryd.underlying39
  a119 := Tryd.isAgg39
  z119 := Tryd.sizeOf39
  t138 := Tryd.underlying68
  a138 := Tryd.isAgg68
  z138 := Tryd.sizeOf68
  v138 := Tryd.zeroValue68
  t139 := Tryd.underlying69
  a139 := Tryd.isAgg69
  z139 := Tryd.sizeOf69
  v139 := Tryd.zeroValue69
  t141 := Tryd.underlying44
  a141 := Tryd.isAgg44
  z141 := Tryd.sizeOf44
  v141 := Tryd.zeroValue44
  t193 := Tryd.underlying51
  a193 := Tryd.isAgg51
  z193 := Tryd.sizeOf51
  v193 := Tryd.zeroValue51
  t194 := Tryd.underlying52
  a194 := Tryd.isAgg52
  z194 := Tryd.sizeOf52
  v194 := Tryd.zeroValue52
  t196 := Tryd.underlying54
  a196 := Tryd.isAgg54
  z196 := Tryd.sizeOf54
  v196 := Tryd.zeroValue54
  t198 := Tryd.underlying57
  a198 := Tryd.isAgg57
  z198 := Tryd.sizeOf57
  v198 := Tryd.zeroValue57
  t201 := Tryd.underlying60
  a201 := Tryd.isAgg60
  z201 := Tryd.sizeOf60
  v201 := Tryd.zeroValue60
  t226 := Tryd.underlying65
  a226 := Tryd.isAgg65
  z226 := Tryd.sizeOf65
  v226 := Tryd.zeroValue65
  t227 := Tryd.underlying66
  a227 := Tryd.isAgg66
  z227 := Tryd.sizeOf66
  v227 := Tryd.zeroValue66
  g0 := by kernel_rfl
  g3 := by kernel_rfl
  g4 := by kernel_rfl
  g6 := by kernel_rfl }
theorem Tryd.Space_Extra_163 : Space.Extra Tryd.prog Tryd.lays163_ren := {
  gNamed := by kernel_rfl }
def Tryd.lays144_ren : Go.Shelf.Ren := ⟨fun | 144 => 13 | 143 => 20 | 219 => 27 | 217 => 35 | 225 => 36 | 224 => 37 | 267 => 38 | 266 => 40 | 314 => 41 | n => n, fun | 9 => 9 | 4 => 4 | 3 => 3 | 5 => 5 | 46 => 64 | 146 => 70 | 51 => 42 | n => n, fun | 1 => 2 | n => n⟩
theorem Tryd.lays144 : Go.Proofs.Lays.n144 Tryd.prog Tryd.lays144_ren := {
  mixed := by kernel_rfl
  f143 := Tryd.func20.trans (congrArg some (by kernel_rfl))
  f144 := Tryd.func13.trans (congrArg some (by kernel_rfl))
  f217 := Tryd.func35.trans (congrArg some (by kernel_rfl))
  f219 := Tryd.func27.trans (congrArg some (by kernel_rfl))
  f224 := Tryd.func37.trans (congrArg some (by kernel_rfl))
  f225 := Tryd.func36.trans (congrArg some (by kernel_rfl))
  f266 := Tryd.func40.trans (congrArg some (by kernel_rfl))
  f267 := Tryd.func38.trans (congrArg some (by kernel_rfl))
  f314 := Tryd.func41.trans (congrArg some (by kernel_rfl))
  t3 := Tryd.underlying3
  a3 := Tryd.isAgg3
  z3 := Tryd.sizeOf3
  v3 := Tryd.zeroValue3
  t4 := Tryd.underlying4
  a4 := Tryd.isAgg4
  z4 := Tryd.sizeOf4
  v4 := Tryd.zeroValue4
  t5 := Tryd.underlying5
  a5 := Tryd.isAgg5
  z5 := Tryd.sizeOf5
  v5 := Tryd.zeroValue5
  t9 := Tryd.underlying9
  a9 := Tryd.isAgg9
  z9 := Tryd.sizeOf9
  v9 := Tryd.zeroValue9
  t46 := Tryd.underlying64
  a46 := Tryd.isAgg64
  z46 := Tryd.sizeOf64
  v46 := Tryd.zeroValue64
  t51 := Tryd.underlying42
  a51 := Tryd.isAgg42
  z51 := Tryd.sizeOf42
  v51 := Tryd.zeroValue42
  t146 := Tryd.underlying70
  a146 := Tryd.isAgg70
  z146 := Tryd.sizeOf70
  v146 := Tryd.zeroValue70
  g1 := by kernel_rfl }
theorem Tryd.strings_Contains (s sub : ByteArray) (m : Int) (w : World) (hs : s.size < 4294967281) (hm : w.cell? ⟨2, 0, none⟩ = some (.int .i64 m)) :
    Calls Tryd.prog 13 #[.string s, .string sub] w fun e w' => e = .returned (.bool (Lib.contains s.data.toList sub.data.toList)) ∧ w' = w := Any.strings_Contains Tryd.lays144 s sub m w hs hm
theorem Tryd.strings_TrimSpace_any (s : ByteArray) (w : World) (hs : s.size ≤ 9223372036854775807) (htab : Lib.TabIs Tryd.prog w "strings.asciiSpace" .u8 Lib.asciiSpaceTab) (hU8 : Lib.Utf8Tabs 3 4 w) (hWS : Lib.WhiteTab 1 w) :
    Calls Tryd.prog 12 #[.string s] w fun e w' => e = .returned (.string ⟨(Lib.trimSpaceD s.data.toList).toArray⟩) ∧ Below w.heap.size w w' := Any.strings_TrimSpace_any Tryd.lays163 Tryd.Space_Extra_163 s w hs htab hU8 hWS
def Tryd.lays167_ren : Go.Shelf.Ren := ⟨fun | 167 => 15 | 240 => 21 | 276 => 28 | n => n, fun | 70 => 29 | 0 => 0 | 4 => 4 | 9 => 9 | 20 => 20 | 72 => 31 | 37 => 25 | 75 => 34 | 80 => 36 | 164 => 48 | 5 => 5 | n => n, fun | n => n⟩
theorem Tryd.lays167 : Go.Proofs.Lays.n167 Tryd.prog Tryd.lays167_ren := {
  mixed := by kernel_rfl
  f167 := Tryd.func15.trans (congrArg some (by kernel_rfl))
  f240 := Tryd.func21.trans (congrArg some (by kernel_rfl))
  f276 := Tryd.func28.trans (congrArg some (by kernel_rfl))
  t0 := Tryd.underlying0
  a0 := Tryd.isAgg0
  z0 := Tryd.sizeOf0
  v0 := Tryd.zeroValue0
  t4 := Tryd.underlying4
  a4 := Tryd.isAgg4
  z4 := Tryd.sizeOf4
  v4 := Tryd.zeroValue4
  t5 := Tryd.underlying5
  a5 := Tryd.isAgg5
  z5 := Tryd.sizeOf5
  v5 := Tryd.zeroValue5
  t9 := Tryd.underlying9
  a9 := Tryd.isAgg9
  z9 := Tryd.sizeOf9
  v9 := Tryd.zeroValue9
  t20 := Tryd.underlying20
  a20 := Tryd.isAgg20
  z20 := Tryd.sizeOf20
  v20 := Tryd.zeroValue20
  t37 := Tryd.underlying25
  a37 := Tryd.isAgg25
  z37 := Tryd.sizeOf25
  v37 := Tryd.zeroValue25
  t70 := Tryd.underlying29
  a70 := Tryd.isAgg29
  z70 := Tryd.sizeOf29
  v70 := Tryd.zeroValue29
  t72 := Tryd.underlying31
  a72 := Tryd.isAgg31
  z72 := Tryd.sizeOf31
  v72 := Tryd.zeroValue31
  t75 := Tryd.underlying34
  a75 := Tryd.isAgg34
  z75 := Tryd.sizeOf34
  v75 := Tryd.zeroValue34
  t164 := Tryd.underlying48
  a164 := Tryd.isAgg48
  z164 := Tryd.sizeOf48
  v164 := Tryd.zeroValue48 }
theorem Tryd.Builder_Extra_167 : Builder.Extra Tryd.prog Tryd.lays167_ren := {
  sizeBuilder := by kernel_rfl
  liesBuilder := by kernel_rfl
  t5 := Tryd.underlying5
  a5 := Tryd.isAgg5
  z5 := Tryd.sizeOf5
  v5 := Tryd.zeroValue5
  infoByte := by kernel_rfl
  cellsByte := by kernel_rfl
  sizeByte := by kernel_rfl
  neB5 := by decide }
open Go.RowKit in
theorem Tryd.Builder_WriteByte (B b : Nat) (bs : List Value) (c : Int) (w : World) (h : Lib.IsBuilder 31 5 B b bs w) (hlen : bs.length + 1 ≤ 140737488355328) (hBw : B ≤ w.heap.size) :
    Calls Tryd.prog 15 #[.pointer (some ⟨b, 0, none⟩), .int .u8 c] w fun e w' => e = .returned .nilIface ∧ (Lib.BuilderAt 31 5 B b (.pointer (some ⟨b, 0, none⟩)) (bs ++ [.int .u8 c]) w' ∧ Below B w w') := Any.Builder_WriteByte Tryd.lays167 Tryd.Builder_Extra_167 B b bs c w h hlen hBw
end Go.Proofs
