import Derived.Shelf.Strings.Builder1
import Derived.Shelf.Strings.Builder2
import Derived.Shelf.Strings.Trim
import Derived.Shelf.Small.Utf8
import Derived.Shelf.Small.Strs
import Derived.Shelf.Small.Wraps
import Derived.Shelf.Strings.BuilderF
import Derived.Shelf.Strings.BuilderK
import Derived.Shelf.Strings.Builder2Cap
import Derived.Shelf.Strings.Search1
import Derived.Shelf.Strings.Search2
import Derived.Shelf.Strings.Cut
import Derived.Shelf.LaysM
import Derived.Shelf.Strings.Shaped
import Derived.Shelf.Strings.Prefix
import Derived.Shelf.Unicode.Decode
import Derived.Shelf.Strings.Runes
import Derived.Shelf.Strings.AsciiSet
import Derived.Shelf.Bits.Mul64
import Derived.Shelf.Strings.Repeat
import Derived.Shelf.Unicode.DecodeSlow
import Derived.Shelf.Unicode.DecodeAny
import Derived.Shelf.Unicode.DecodeLast
import Derived.Shelf.Strings.BuilderCap
import Derived.Test.Qxb6602721aDoorProg
namespace Go.Proofs
open Go.Shelf
def Tryd.lays161_ren : Go.Shelf.Ren := ⟨fun | 161 => 19 | 231 => 22 | 227 => 24 | 233 => 25 | 235 => 27 | 228 => 37 | 197 => 38 | 151 => 39 | 260 => 49 | 152 => 50 | 137 => 56 | 119 => 57 | 224 => 47 | 225 => 46 | 217 => 45 | 266 => 54 | n => n, fun | 9 => 9 | 4 => 4 | 3 => 3 | 5 => 5 | 117 => 42 | 116 => 41 | 0 => 0 | 124 => 45 | 105 => 61 | 21 => 21 | 119 => 78 | 46 => 46 | 139 => 81 | 138 => 80 | n => n, fun | 3 => 1 | 4 => 2 | n => n⟩
theorem Tryd.lays161 : Go.Proofs.Lays.n161 Tryd.prog Tryd.lays161_ren := {
  mixed := by kernel_rfl
  f119 := Tryd.func57.trans (congrArg some (by kernel_rfl))
  f137 := Tryd.func56.trans (congrArg some (by kernel_rfl))
  f151 := Tryd.func39.trans (congrArg some (by kernel_rfl))
  f152 := Tryd.func50.trans (congrArg some (by kernel_rfl))
  f161 := Tryd.func19.trans (congrArg some (by kernel_rfl))
  f197 := Tryd.func38.trans (congrArg some (by kernel_rfl))
  f217 := Tryd.func45.trans (congrArg some (by kernel_rfl))
  f224 := Tryd.func47.trans (congrArg some (by kernel_rfl))
  f225 := Tryd.func46.trans (congrArg some (by kernel_rfl))
  f227 := Tryd.func24.trans (congrArg some (by kernel_rfl))
  f228 := Tryd.func37.trans (congrArg some (by kernel_rfl))
  f231 := Tryd.func22.trans (congrArg some (by kernel_rfl))
  f233 := Tryd.func25.trans (congrArg some (by kernel_rfl))
  f235 := Tryd.func27.trans (congrArg some (by kernel_rfl))
  f260 := Tryd.func49.trans (congrArg some (by kernel_rfl))
  f266 := Tryd.func54.trans (congrArg some (by kernel_rfl))
  t0 := Tryd.underlying0
  a0 := Tryd.isAgg0
  z0 := Tryd.sizeOf0
  v0 := Tryd.zeroValue0
  t3 := Tryd.underlying3
  a3 := Tryd.isAgg3
  z3 := Tryd.sizeOf3
  v3 := Tryd.zeroValue3
  t4 := Tryd.underlying4
  a4 := Tryd.isAgg4
  z4 := Tryd.sizeOf4
  v4 := Tryd.zeroValue4
  t5 := Tryd.underlying5
  a5 := Tryd.isAgg5
  z5 := Tryd.sizeOf5
  v5 := Tryd.zeroValue5
  t9 := Tryd.underlying9
  a9 := Tryd.isAgg9
  z9 := Tryd.sizeOf9
  v9 := Tryd.zeroValue9
  t21 := Tryd.underlying21
  a21 := Tryd.isAgg21
  z21 := Tryd.sizeOf21
  v21 := Tryd.zeroValue21
  t46 := Tryd.underlying46
  a46 := Tryd.isAgg46
  z46 := Tryd.sizeOf46
  v46 := Tryd.zeroValue46
  t105 := Tryd.underlying61
  a105 := Tryd.isAgg61
  z105 := Tryd.sizeOf61
  v105 := Tryd.zeroValue61
  t116 := Tryd.underlying41
  a116 := Tryd.isAgg41
  z116 := Tryd.sizeOf41
  t117 := Tryd.underlying42
  a117 := Tryd.isAgg42
  z117 := Tryd.sizeOf42
  v117 := Tryd.zeroValue42
  t119 := Tryd.underlying78
  a119 := Tryd.isAgg78
  z119 := Tryd.sizeOf78
  t124 := Tryd.underlying45
  a124 := Tryd.isAgg45
  z124 := Tryd.sizeOf45
  v124 := Tryd.zeroValue45
  t138 := Tryd.underlying80
  a138 := Tryd.isAgg80
  z138 := Tryd.sizeOf80
  v138 := Tryd.zeroValue80
  t139 := Tryd.underlying81
  a139 := Tryd.isAgg81
  z139 := Tryd.sizeOf81
  v139 := Tryd.zeroValue81
  g3 := by kernel_rfl
  g4 := by kernel_rfl }
open Go.RowKit in
theorem Tryd.strings_TrimLeft_one (s : ByteArray) (c : UInt8) (hc : c.toNat < 128) (w : World) :
    Calls Tryd.prog 19 #[.string s, .string ⟨#[c]⟩] w fun e w' => e = .returned (.string ⟨(Lib.trimLeftB s.data.toList c).toArray⟩) ∧ w' = w := Any.strings_TrimLeft_one Tryd.lays161 s c hc w
def Tryd.lays160_ren : Go.Shelf.Ren := ⟨fun | 160 => 17 | 232 => 23 | 231 => 22 | 227 => 24 | 234 => 26 | 233 => 25 | 236 => 28 | 235 => 27 | 228 => 37 | 271 => 40 | 151 => 39 | 197 => 38 | 120 => 51 | 152 => 50 | 260 => 49 | 137 => 56 | 119 => 57 | 224 => 47 | 225 => 46 | 217 => 45 | 266 => 54 | n => n, fun | 9 => 9 | 4 => 4 | 3 => 3 | 5 => 5 | 117 => 42 | 116 => 41 | 0 => 0 | 124 => 45 | 21 => 21 | 105 => 61 | 46 => 46 | 119 => 78 | 139 => 81 | 138 => 80 | n => n, fun | 3 => 1 | 4 => 2 | n => n⟩
theorem Tryd.lays160 : Go.Proofs.Lays.n160 Tryd.prog Tryd.lays160_ren := {
  mixed := by kernel_rfl
  f119 := Tryd.func57.trans (congrArg some (by kernel_rfl))
  f120 := Tryd.func51.trans (congrArg some (by kernel_rfl))
  f137 := Tryd.func56.trans (congrArg some (by kernel_rfl))
  f151 := Tryd.func39.trans (congrArg some (by kernel_rfl))
  f152 := Tryd.func50.trans (congrArg some (by kernel_rfl))
  f160 := Tryd.func17.trans (congrArg some (by kernel_rfl))
  f197 := Tryd.func38.trans (congrArg some (by kernel_rfl))
  f217 := Tryd.func45.trans (congrArg some (by kernel_rfl))
  f224 := Tryd.func47.trans (congrArg some (by kernel_rfl))
  f225 := Tryd.func46.trans (congrArg some (by kernel_rfl))
  f227 := Tryd.func24.trans (congrArg some (by kernel_rfl))
  f228 := Tryd.func37.trans (congrArg some (by kernel_rfl))
  f231 := Tryd.func22.trans (congrArg some (by kernel_rfl))
  f232 := Tryd.func23.trans (congrArg some (by kernel_rfl))
  f233 := Tryd.func25.trans (congrArg some (by kernel_rfl))
  f234 := Tryd.func26.trans (congrArg some (by kernel_rfl))
  f235 := Tryd.func27.trans (congrArg some (by kernel_rfl))
  f236 := Tryd.func28.trans (congrArg some (by kernel_rfl))
  f260 := Tryd.func49.trans (congrArg some (by kernel_rfl))
  f266 := Tryd.func54.trans (congrArg some (by kernel_rfl))
  f271 := Tryd.func40.trans (congrArg some (by kernel_rfl))
  t0 := Tryd.underlying0
  a0 := Tryd.isAgg0
  z0 := Tryd.sizeOf0
  v0 := Tryd.zeroValue0
  t3 := Tryd.underlying3
  a3 := Tryd.isAgg3
  z3 := Tryd.sizeOf3
  v3 := Tryd.zeroValue3
  t4 := Tryd.underlying4
  a4 := Tryd.isAgg4
  z4 := Tryd.sizeOf4
  v4 := Tryd.zeroValue4
  t5 := Tryd.underlying5
  a5 := Tryd.isAgg5
  z5 := Tryd.sizeOf5
  v5 := Tryd.zeroValue5
  t9 := Tryd.underlying9
  a9 := Tryd.isAgg9
  z9 := Tryd.sizeOf9
  v9 := Tryd.zeroValue9
  t21 := Tryd.underlying21
  a21 := Tryd.isAgg21
  z21 := Tryd.sizeOf21
  v21 := Tryd.zeroValue21
  t46 := Tryd.underlying46
  a46 := Tryd.isAgg46
  z46 := Tryd.sizeOf46
  v46 := Tryd.zeroValue46
  t105 := Tryd.underlying61
  a105 := Tryd.isAgg61
  z105 := Tryd.sizeOf61
  v105 := Tryd.zeroValue61
  t116 := Tryd.underlying41
  a116 := Tryd.isAgg41
  z116 := Tryd.sizeOf41
  t117 := Tryd.underlying42
  a117 := Tryd.isAgg42
  z117 := Tryd.sizeOf42
  v117 := Tryd.zeroValue42
  t119 := Tryd.underlying78
  a119 := Tryd.isAgg78
  z119 := Tryd.sizeOf78
  t124 := Tryd.underlying45
  a124 := Tryd.isAgg45
  z124 := Tryd.sizeOf45
  v124 := Tryd.zeroValue45
  t138 := Tryd.underlying80
  a138 := Tryd.isAgg80
  z138 := Tryd.sizeOf80
  v138 := Tryd.zeroValue80
  t139 := Tryd.underlying81
  a139 := Tryd.isAgg81
  z139 := Tryd.sizeOf81
  v139 := Tryd.zeroValue81
  g3 := by kernel_rfl
  g4 := by kernel_rfl }
open Go.RowKit in
theorem Tryd.strings_Trim_one (s : ByteArray) (c : UInt8) (hc : c.toNat < 128) (w : World) (hs : s.size ≤ 9223372036854775807) :
    Calls Tryd.prog 17 #[.string s, .string ⟨#[c]⟩] w fun e w' => e = .returned (.string ⟨(Lib.trimB s.data.toList c).toArray⟩) ∧ (w' = w ∨ w' = w.drew) := Any.strings_Trim_one Tryd.lays160 s c hc w hs
def Tryd.lays103_ren : Go.Shelf.Ren := ⟨fun | 103 => 15 | 210 => 20 | 206 => 35 | n => n, fun | 9 => 9 | 4 => 4 | 24 => 34 | 3 => 3 | n => n, fun | n => n⟩
theorem Tryd.lays103 : Go.Proofs.Lays.n103 Tryd.prog Tryd.lays103_ren := {
  mixed := by kernel_rfl
  f103 := Tryd.func15.trans (congrArg some (by kernel_rfl))
  f206 := Tryd.func35.trans (congrArg some (by kernel_rfl))
  f210 := Tryd.func20.trans (congrArg some (by kernel_rfl))
  t3 := Tryd.underlying3
  a3 := Tryd.isAgg3
  z3 := Tryd.sizeOf3
  v3 := Tryd.zeroValue3
  t4 := Tryd.underlying4
  a4 := Tryd.isAgg4
  z4 := Tryd.sizeOf4
  v4 := Tryd.zeroValue4
  t9 := Tryd.underlying9
  a9 := Tryd.isAgg9
  z9 := Tryd.sizeOf9
  v9 := Tryd.zeroValue9
  t24 := Tryd.underlying34
  a24 := Tryd.isAgg34
  z24 := Tryd.sizeOf34
  v24 := Tryd.zeroValue34 }
open Go.RowKit in
theorem Tryd.strings_CutPrefix (s p : ByteArray) (w : World) :
    Calls Tryd.prog 15 #[.string s, .string p] w fun e w' => e = .returned (.tuple #[.string ⟨(Lib.trimPrefix s.data.toList p.data.toList).toArray⟩, .bool (Lib.hasPrefix s.data.toList p.data.toList)]) ∧ w' = w := Any.strings_CutPrefix Tryd.lays103 s p w
def Tryd.lays145_ren : Go.Shelf.Ren := ⟨fun | 145 => 16 | 220 => 21 | 219 => 36 | 217 => 45 | 225 => 46 | 224 => 47 | 267 => 48 | 266 => 54 | 314 => 55 | n => n, fun | 9 => 9 | 4 => 4 | 59 => 25 | 3 => 3 | 5 => 5 | 46 => 46 | 146 => 65 | 51 => 64 | n => n, fun | 1 => 0 | n => n⟩
theorem Tryd.lays145 : Go.Proofs.Lays.n145 Tryd.prog Tryd.lays145_ren := {
  mixed := by kernel_rfl
  f145 := Tryd.func16.trans (congrArg some (by kernel_rfl))
  f217 := Tryd.func45.trans (congrArg some (by kernel_rfl))
  f219 := Tryd.func36.trans (congrArg some (by kernel_rfl))
  f220 := Tryd.func21.trans (congrArg some (by kernel_rfl))
  f224 := Tryd.func47.trans (congrArg some (by kernel_rfl))
  f225 := Tryd.func46.trans (congrArg some (by kernel_rfl))
  f266 := Tryd.func54.trans (congrArg some (by kernel_rfl))
  f267 := Tryd.func48.trans (congrArg some (by kernel_rfl))
  f314 := Tryd.func55.trans (congrArg some (by kernel_rfl))
  t3 := Tryd.underlying3
  a3 := Tryd.isAgg3
  z3 := Tryd.sizeOf3
  v3 := Tryd.zeroValue3
  t4 := Tryd.underlying4
  a4 := Tryd.isAgg4
  z4 := Tryd.sizeOf4
  v4 := Tryd.zeroValue4
  t5 := Tryd.underlying5
  a5 := Tryd.isAgg5
  z5 := Tryd.sizeOf5
  v5 := Tryd.zeroValue5
  t9 := Tryd.underlying9
  a9 := Tryd.isAgg9
  z9 := Tryd.sizeOf9
  v9 := Tryd.zeroValue9
  t46 := Tryd.underlying46
  a46 := Tryd.isAgg46
  z46 := Tryd.sizeOf46
  v46 := Tryd.zeroValue46
  t51 := Tryd.underlying64
  a51 := Tryd.isAgg64
  z51 := Tryd.sizeOf64
  v51 := Tryd.zeroValue64
  t59 := Tryd.underlying25
  a59 := Tryd.isAgg25
  z59 := Tryd.sizeOf25
  v59 := Tryd.zeroValue25
  t146 := Tryd.underlying65
  a146 := Tryd.isAgg65
  z146 := Tryd.sizeOf65
  v146 := Tryd.zeroValue65
  g1 := by kernel_rfl }
open Go.RowKit Go.Lib in
theorem Tryd.strings_Cut (s sep : ByteArray) (m : Int) (w : World) (hs : s.size < 4294967281) (hm : w.cell? ⟨0, 0, none⟩ = some (.int .i64 m)) :
    Calls Tryd.prog 16 #[.string s, .string sep] w fun e w' => e = .returned (.tuple #[.string ⟨(Lib.cut s.data.toList sep.data.toList).1.toArray⟩, .string ⟨(Lib.cut s.data.toList sep.data.toList).2.1.toArray⟩, .bool (Lib.cut s.data.toList sep.data.toList).2.2]) ∧ ∃ n, w' = w.drewN n := Any.strings_Cut Tryd.lays145 s sep m w hs hm
def Tryd.lays105_ren : Go.Shelf.Ren := ⟨fun | 105 => 18 | 212 => 29 | 99 => 30 | 165 => 31 | 166 => 32 | 170 => 33 | 169 => 34 | 263 => 41 | 264 => 42 | 206 => 35 | 240 => 43 | 241 => 44 | 276 => 52 | 277 => 53 | n => n, fun | 9 => 9 | 3 => 3 | 4 => 4 | 20 => 20 | 0 => 0 | 46 => 46 | 109 => 47 | 5 => 5 | 72 => 52 | 76 => 56 | 51 => 64 | 146 => 65 | 53 => 67 | 148 => 68 | 70 => 50 | 37 => 31 | 75 => 55 | 127 => 70 | 164 => 74 | 80 => 59 | n => n, fun | n => n⟩
theorem Tryd.lays105 : Go.Proofs.Lays.n105 Tryd.prog Tryd.lays105_ren := {
  mixed := by kernel_rfl
  f99 := Tryd.func30.trans (congrArg some (by kernel_rfl))
  f105 := Tryd.func18.trans (congrArg some (by kernel_rfl))
  f165 := Tryd.func31.trans (congrArg some (by kernel_rfl))
  f166 := Tryd.func32.trans (congrArg some (by kernel_rfl))
  f169 := Tryd.func34.trans (congrArg some (by kernel_rfl))
  f170 := Tryd.func33.trans (congrArg some (by kernel_rfl))
  f206 := Tryd.func35.trans (congrArg some (by kernel_rfl))
  f212 := Tryd.func29.trans (congrArg some (by kernel_rfl))
  f240 := Tryd.func43.trans (congrArg some (by kernel_rfl))
  f241 := Tryd.func44.trans (congrArg some (by kernel_rfl))
  f263 := Tryd.func41.trans (congrArg some (by kernel_rfl))
  f264 := Tryd.func42.trans (congrArg some (by kernel_rfl))
  f276 := Tryd.func52.trans (congrArg some (by kernel_rfl))
  f277 := Tryd.func53.trans (congrArg some (by kernel_rfl))
  t0 := Tryd.underlying0
  a0 := Tryd.isAgg0
  z0 := Tryd.sizeOf0
  v0 := Tryd.zeroValue0
  t3 := Tryd.underlying3
  a3 := Tryd.isAgg3
  z3 := Tryd.sizeOf3
  v3 := Tryd.zeroValue3
  t4 := Tryd.underlying4
  a4 := Tryd.isAgg4
  z4 := Tryd.sizeOf4
  v4 := Tryd.zeroValue4
  t5 := Tryd.underlying5
  a5 := Tryd.isAgg5
  z5 := Tryd.sizeOf5
  v5 := Tryd.zeroValue5
  t9 := Tryd.underlying9
  a9 := Tryd.isAgg9
  z9 := Tryd.sizeOf9
  v9 := Tryd.zeroValue9
  t20 := Tryd.underlying20
  a20 := Tryd.isAgg20
  z20 := Tryd.sizeOf20
  v20 := Tryd.zeroValue20
  t37 := Tryd.underlying31
  a37 := Tryd.isAgg31
  z37 := Tryd.sizeOf31
  v37 := Tryd.zeroValue31
  t46 := Tryd.underlying46
  a46 := Tryd.isAgg46
  z46 := Tryd.sizeOf46
  v46 := Tryd.zeroValue46
  t51 := Tryd.underlying64
  a51 := Tryd.isAgg64
  z51 := Tryd.sizeOf64
  v51 := Tryd.zeroValue64
  t53 := Tryd.underlying67
  a53 := Tryd.isAgg67
  z53 := Tryd.sizeOf67
  v53 := Tryd.zeroValue67
  t70 := Tryd.underlying50
  a70 := Tryd.isAgg50
  z70 := Tryd.sizeOf50
  v70 := Tryd.zeroValue50
  t72 := Tryd.underlying52
  a72 := Tryd.isAgg52
  z72 := Tryd.sizeOf52
  v72 := Tryd.zeroValue52
  t75 := Tryd.underlying55
  a75 := Tryd.isAgg55
  z75 := Tryd.sizeOf55
  v75 := Tryd.zeroValue55
  t76 := Tryd.underlying56
  a76 := Tryd.isAgg56
  z76 := Tryd.sizeOf56
  v76 := Tryd.zeroValue56
  t109 := Tryd.underlying47
  a109 := Tryd.isAgg47
  z109 := Tryd.sizeOf47
  v109 := Tryd.zeroValue47
  t127 := Tryd.underlying70
  a127 := Tryd.isAgg70
  z127 := Tryd.sizeOf70
  v127 := Tryd.zeroValue70
  t146 := Tryd.underlying65
  a146 := Tryd.isAgg65
  z146 := Tryd.sizeOf65
  v146 := Tryd.zeroValue65
  t148 := Tryd.underlying68
  a148 := Tryd.isAgg68
  z148 := Tryd.sizeOf68
  v148 := Tryd.zeroValue68
  t164 := Tryd.underlying74
  a164 := Tryd.isAgg74
  z164 := Tryd.sizeOf74
  v164 := Tryd.zeroValue74 }
theorem Tryd.Builder_Extra_105 : Builder.Extra Tryd.prog Tryd.lays105_ren := {
  sizeBuilder := by kernel_rfl
  liesBuilder := by kernel_rfl
  t5 := Tryd.underlying5
  a5 := Tryd.isAgg5
  z5 := Tryd.sizeOf5
  v5 := Tryd.zeroValue5
  infoByte := by kernel_rfl
  cellsByte := by kernel_rfl
  sizeByte := by kernel_rfl
  neB5 := by decide }
open Go.RowKit Go.Lib in
theorem Tryd.strings_Repeat (s : ByteArray) (c : Nat) (w : World) (hc : c ≤ 9223372036854775807) (hlen : s.size * c ≤ 140737488355328) :
    Calls Tryd.prog 18 #[.string s, .int .i64 c] w fun e w' => e = .returned (.string ⟨(Lib.repeatL s.data.toList c).toArray⟩) ∧ Below w.heap.size w w' := Any.strings_Repeat Tryd.lays105 Tryd.Builder_Extra_105 s c w hc hlen
end Go.Proofs
