import Derived.Shelf.Strings.Trim
import Derived.Shelf.Small.Utf8
import Derived.Shelf.Small.Strs
import Derived.Shelf.Utf8.RuneCount
import Derived.Shelf.Strings.Search1
import Derived.Shelf.Strings.Search2
import Derived.Shelf.Strings.Search3
import Derived.Shelf.Strings.Cut
import Derived.Shelf.Strings.Count
import Derived.Shelf.LaysM
import Derived.Shelf.Strings.Shaped
import Derived.Shelf.Strings.Prefix
import Derived.Shelf.Strings.Split
import Derived.Shelf.Strings.SplitShaped
import Derived.Shelf.Unicode.Decode
import Derived.Shelf.Strings.Runes
import Derived.Shelf.Strings.RuneCount
import Derived.Shelf.Strings.AsciiSet
import Derived.Shelf.Strings.Explode
import Derived.Shelf.Unicode.DecodeSlow
import Derived.Shelf.Unicode.DecodeAny
import Derived.Test.Qxb6603125aDoorProg
import Derived.Shelf.Strings.SlTrimAscii
namespace Go.Proofs
open Go.Shelf
def Tryd.lays161_ren : Go.Shelf.Ren := ⟨fun | 161 => 38 | 231 => 45 | 227 => 46 | 233 => 47 | 235 => 48 | 228 => 55 | 197 => 53 | 151 => 56 | 260 => 60 | 152 => 61 | 137 => 35 | 119 => 63 | 224 => 58 | 225 => 57 | 217 => 41 | 266 => 51 | n => n, fun | 9 => 9 | 4 => 4 | 3 => 3 | 5 => 5 | 117 => 41 | 116 => 40 | 0 => 0 | 124 => 44 | 105 => 46 | 21 => 21 | 119 => 55 | 46 => 50 | 139 => 58 | 138 => 57 | n => n, fun | 3 => 1 | 4 => 2 | n => n⟩
theorem Tryd.lays161 : Go.Proofs.Lays.n161 Tryd.prog Tryd.lays161_ren := {
  mixed := by kernel_rfl
  f119 := Tryd.func63.trans (congrArg some (by kernel_rfl))
  f137 := Tryd.func35.trans (congrArg some (by kernel_rfl))
  f151 := Tryd.func56.trans (congrArg some (by kernel_rfl))
  f152 := Tryd.func61.trans (congrArg some (by kernel_rfl))
  f161 := Tryd.func38.trans (congrArg some (by kernel_rfl))
  f197 := Tryd.func53.trans (congrArg some (by kernel_rfl))
  f217 := Tryd.func41.trans (congrArg some (by kernel_rfl))
  f224 := Tryd.func58.trans (congrArg some (by kernel_rfl))
  f225 := Tryd.func57.trans (congrArg some (by kernel_rfl))
  f227 := Tryd.func46.trans (congrArg some (by kernel_rfl))
  f228 := Tryd.func55.trans (congrArg some (by kernel_rfl))
  f231 := Tryd.func45.trans (congrArg some (by kernel_rfl))
  f233 := Tryd.func47.trans (congrArg some (by kernel_rfl))
  f235 := Tryd.func48.trans (congrArg some (by kernel_rfl))
  f260 := Tryd.func60.trans (congrArg some (by kernel_rfl))
  f266 := Tryd.func51.trans (congrArg some (by kernel_rfl))
  t0 := Tryd.underlying0
  a0 := Tryd.isAgg0
  z0 := Tryd.sizeOf0
  v0 := Tryd.zeroValue0
  t3 := Tryd.underlying3
  a3 := Tryd.isAgg3
  z3 := Tryd.sizeOf3
  v3 := Tryd.zeroValue3
  t4 := Tryd.underlying4
  a4 := Tryd.isAgg4
  z4 := Tryd.sizeOf4
  v4 := Tryd.zeroValue4
  t5 := Tryd.underlying5
  a5 := Tryd.isAgg5
  z5 := Tryd.sizeOf5
  v5 := Tryd.zeroValue5
  t9 := Tryd.underlying9
  a9 := Tryd.isAgg9
  z9 := Tryd.sizeOf9
  v9 := Tryd.zeroValue9
  t21 := Tryd.underlying21
  a21 := Tryd.isAgg21
  z21 := Tryd.sizeOf21
  v21 := Tryd.zeroValue21
  t46 := Tryd.underlying50
  a46 := Tryd.isAgg50
  z46 := Tryd.sizeOf50
  v46 := Tryd.zeroValue50
  t105 := Tryd.underlying46
  a105 := Tryd.isAgg46
  z105 := Tryd.sizeOf46
  v105 := Tryd.zeroValue46
  t116 := Tryd.underlying40
  a116 := Tryd.isAgg40
  z116 := Tryd.sizeOf40
  t117 := Tryd.underlying41
  a117 := Tryd.isAgg41
  z117 := Tryd.sizeOf41
  v117 := Tryd.zeroValue41
  t119 := Tryd.underlying55
  a119 := Tryd.isAgg55
  z119 := Tryd.sizeOf55
  t124 := Tryd.underlying44
  a124 := Tryd.isAgg44
  z124 := Tryd.sizeOf44
  v124 := Tryd.zeroValue44
  t138 := Tryd.underlying57
  a138 := Tryd.isAgg57
  z138 := Tryd.sizeOf57
  v138 := Tryd.zeroValue57
  t139 := Tryd.underlying58
  a139 := Tryd.isAgg58
  z139 := Tryd.sizeOf58
  v139 := Tryd.zeroValue58
  g3 := by kernel_rfl
  g4 := by kernel_rfl }
open Go.RowKit in
def Tryd.lays137_ren : Go.Shelf.Ren := ⟨fun | 137 => 35 | 217 => 41 | 266 => 51 | n => n, fun | 9 => 9 | 5 => 5 | 3 => 3 | n => n, fun | n => n⟩
theorem Tryd.lays137 : Go.Proofs.Lays.n137 Tryd.prog Tryd.lays137_ren := {
  mixed := by kernel_rfl
  f137 := Tryd.func35.trans (congrArg some (by kernel_rfl))
  f217 := Tryd.func41.trans (congrArg some (by kernel_rfl))
  f266 := Tryd.func51.trans (congrArg some (by kernel_rfl))
  t3 := Tryd.underlying3
  a3 := Tryd.isAgg3
  z3 := Tryd.sizeOf3
  v3 := Tryd.zeroValue3
  t5 := Tryd.underlying5
  a5 := Tryd.isAgg5
  z5 := Tryd.sizeOf5
  v5 := Tryd.zeroValue5
  t9 := Tryd.underlying9
  a9 := Tryd.isAgg9
  z9 := Tryd.sizeOf9
  v9 := Tryd.zeroValue9 }
open Go.RowKit in
theorem Tryd.strings_IndexByte (s : ByteArray) (c : Int) (w : World) :
    Calls Tryd.prog 35 #[.string s, .int .u8 c] w fun e w' => e = .returned (.int .i64 (Lib.indexByte s.data.toList c.toNat.toUInt8)) ∧ w' = w := Any.strings_IndexByte Tryd.lays137 s c w
def Tryd.lays145_ren : Go.Shelf.Ren := ⟨fun | 145 => 33 | 220 => 39 | 219 => 49 | 217 => 41 | 225 => 57 | 224 => 58 | 267 => 59 | 266 => 51 | 314 => 62 | n => n, fun | 9 => 9 | 4 => 4 | 59 => 31 | 3 => 3 | 5 => 5 | 46 => 50 | 146 => 53 | 51 => 52 | n => n, fun | 1 => 0 | n => n⟩
theorem Tryd.lays145 : Go.Proofs.Lays.n145 Tryd.prog Tryd.lays145_ren := {
  mixed := by kernel_rfl
  f145 := Tryd.func33.trans (congrArg some (by kernel_rfl))
  f217 := Tryd.func41.trans (congrArg some (by kernel_rfl))
  f219 := Tryd.func49.trans (congrArg some (by kernel_rfl))
  f220 := Tryd.func39.trans (congrArg some (by kernel_rfl))
  f224 := Tryd.func58.trans (congrArg some (by kernel_rfl))
  f225 := Tryd.func57.trans (congrArg some (by kernel_rfl))
  f266 := Tryd.func51.trans (congrArg some (by kernel_rfl))
  f267 := Tryd.func59.trans (congrArg some (by kernel_rfl))
  f314 := Tryd.func62.trans (congrArg some (by kernel_rfl))
  t3 := Tryd.underlying3
  a3 := Tryd.isAgg3
  z3 := Tryd.sizeOf3
  v3 := Tryd.zeroValue3
  t4 := Tryd.underlying4
  a4 := Tryd.isAgg4
  z4 := Tryd.sizeOf4
  v4 := Tryd.zeroValue4
  t5 := Tryd.underlying5
  a5 := Tryd.isAgg5
  z5 := Tryd.sizeOf5
  v5 := Tryd.zeroValue5
  t9 := Tryd.underlying9
  a9 := Tryd.isAgg9
  z9 := Tryd.sizeOf9
  v9 := Tryd.zeroValue9
  t46 := Tryd.underlying50
  a46 := Tryd.isAgg50
  z46 := Tryd.sizeOf50
  v46 := Tryd.zeroValue50
  t51 := Tryd.underlying52
  a51 := Tryd.isAgg52
  z51 := Tryd.sizeOf52
  v51 := Tryd.zeroValue52
  t59 := Tryd.underlying31
  a59 := Tryd.isAgg31
  z59 := Tryd.sizeOf31
  v59 := Tryd.zeroValue31
  t146 := Tryd.underlying53
  a146 := Tryd.isAgg53
  z146 := Tryd.sizeOf53
  v146 := Tryd.zeroValue53
  g1 := by kernel_rfl }
open Go.RowKit Go.Lib in
theorem Tryd.strings_Cut (s sep : ByteArray) (m : Int) (w : World) (hs : s.size < 4294967281) (hm : w.cell? ⟨0, 0, none⟩ = some (.int .i64 m)) :
    Calls Tryd.prog 33 #[.string s, .string sep] w fun e w' => e = .returned (.tuple #[.string ⟨(Lib.cut s.data.toList sep.data.toList).1.toArray⟩, .string ⟨(Lib.cut s.data.toList sep.data.toList).2.1.toArray⟩, .bool (Lib.cut s.data.toList sep.data.toList).2.2]) ∧ ∃ n, w' = w.drewN n := Any.strings_Cut Tryd.lays145 s sep m w hs hm
def Tryd.lays99_ren : Go.Shelf.Ren := ⟨fun | 99 => 40 | 206 => 50 | n => n, fun | 9 => 9 | 4 => 4 | 3 => 3 | n => n, fun | n => n⟩
theorem Tryd.lays99 : Go.Proofs.Lays.n99 Tryd.prog Tryd.lays99_ren := {
  mixed := by kernel_rfl
  f99 := Tryd.func40.trans (congrArg some (by kernel_rfl))
  f206 := Tryd.func50.trans (congrArg some (by kernel_rfl))
  t3 := Tryd.underlying3
  a3 := Tryd.isAgg3
  z3 := Tryd.sizeOf3
  v3 := Tryd.zeroValue3
  t4 := Tryd.underlying4
  a4 := Tryd.isAgg4
  z4 := Tryd.sizeOf4
  v4 := Tryd.zeroValue4
  t9 := Tryd.underlying9
  a9 := Tryd.isAgg9
  z9 := Tryd.sizeOf9
  v9 := Tryd.zeroValue9 }
open Go.RowKit Go.Lib in
theorem Tryd.strings_HasPrefix (s p : ByteArray) (w : World) :
    Calls Tryd.prog 40 #[.string s, .string p] w fun e w' => e = .returned (.bool (Lib.hasPrefix s.data.toList p.data.toList)) ∧ w' = w := Any.strings_HasPrefix Tryd.lays99 s p w
open Go.RowKit Go.Lib in
def Tryd.lays146_ren : Go.Shelf.Ren := ⟨fun | 146 => 27 | 221 => 37 | 268 => 42 | 138 => 43 | 143 => 44 | 195 => 52 | 197 => 53 | 218 => 54 | 219 => 49 | 260 => 60 | 217 => 41 | 225 => 57 | 224 => 58 | 267 => 59 | 266 => 51 | 314 => 62 | n => n, fun | 9 => 9 | 31 => 29 | 3 => 3 | 4 => 4 | 0 => 0 | 105 => 46 | 21 => 21 | 5 => 5 | 46 => 50 | 119 => 55 | 139 => 58 | 138 => 57 | 146 => 53 | 51 => 52 | n => n, fun | 1 => 0 | 3 => 1 | 4 => 2 | n => n⟩
theorem Tryd.lays146 : Go.Proofs.Lays.n146 Tryd.prog Tryd.lays146_ren := {
  mixed := by kernel_rfl
  f138 := Tryd.func43.trans (congrArg some (by kernel_rfl))
  f143 := Tryd.func44.trans (congrArg some (by kernel_rfl))
  f146 := Tryd.func27.trans (congrArg some (by kernel_rfl))
  f195 := Tryd.func52.trans (congrArg some (by kernel_rfl))
  f197 := Tryd.func53.trans (congrArg some (by kernel_rfl))
  f217 := Tryd.func41.trans (congrArg some (by kernel_rfl))
  f218 := Tryd.func54.trans (congrArg some (by kernel_rfl))
  f219 := Tryd.func49.trans (congrArg some (by kernel_rfl))
  f221 := Tryd.func37.trans (congrArg some (by kernel_rfl))
  f224 := Tryd.func58.trans (congrArg some (by kernel_rfl))
  f225 := Tryd.func57.trans (congrArg some (by kernel_rfl))
  f260 := Tryd.func60.trans (congrArg some (by kernel_rfl))
  f266 := Tryd.func51.trans (congrArg some (by kernel_rfl))
  f267 := Tryd.func59.trans (congrArg some (by kernel_rfl))
  f268 := Tryd.func42.trans (congrArg some (by kernel_rfl))
  f314 := Tryd.func62.trans (congrArg some (by kernel_rfl))
  t0 := Tryd.underlying0
  a0 := Tryd.isAgg0
  z0 := Tryd.sizeOf0
  v0 := Tryd.zeroValue0
  t3 := Tryd.underlying3
  a3 := Tryd.isAgg3
  z3 := Tryd.sizeOf3
  v3 := Tryd.zeroValue3
  t4 := Tryd.underlying4
  a4 := Tryd.isAgg4
  z4 := Tryd.sizeOf4
  v4 := Tryd.zeroValue4
  t5 := Tryd.underlying5
  a5 := Tryd.isAgg5
  z5 := Tryd.sizeOf5
  v5 := Tryd.zeroValue5
  t9 := Tryd.underlying9
  a9 := Tryd.isAgg9
  z9 := Tryd.sizeOf9
  v9 := Tryd.zeroValue9
  t21 := Tryd.underlying21
  a21 := Tryd.isAgg21
  z21 := Tryd.sizeOf21
  v21 := Tryd.zeroValue21
  t31 := Tryd.underlying29
  a31 := Tryd.isAgg29
  z31 := Tryd.sizeOf29
  v31 := Tryd.zeroValue29
  t46 := Tryd.underlying50
  a46 := Tryd.isAgg50
  z46 := Tryd.sizeOf50
  v46 := Tryd.zeroValue50
  t51 := Tryd.underlying52
  a51 := Tryd.isAgg52
  z51 := Tryd.sizeOf52
  v51 := Tryd.zeroValue52
  t105 := Tryd.underlying46
  a105 := Tryd.isAgg46
  z105 := Tryd.sizeOf46
  v105 := Tryd.zeroValue46
  t119 := Tryd.underlying55
  a119 := Tryd.isAgg55
  z119 := Tryd.sizeOf55
  t138 := Tryd.underlying57
  a138 := Tryd.isAgg57
  z138 := Tryd.sizeOf57
  v138 := Tryd.zeroValue57
  t139 := Tryd.underlying58
  a139 := Tryd.isAgg58
  z139 := Tryd.sizeOf58
  v139 := Tryd.zeroValue58
  t146 := Tryd.underlying53
  a146 := Tryd.isAgg53
  z146 := Tryd.sizeOf53
  v146 := Tryd.zeroValue53
  g1 := by kernel_rfl
  g3 := by kernel_rfl
  g4 := by kernel_rfl }
open Go.RowKit Go.Lib in
theorem Tryd.strings_Split (s sep : ByteArray) (m : Int) (w : World) (hs : s.size < 4294967281) (hm : w.cell? ⟨0, 0, none⟩ = some (.int .i64 m)) (h1 : 1 ≤ sep.size) :
    Calls Tryd.prog 27 #[.string s, .string sep] w fun e w' =>
      e = .returned (.slice (some ⟨w.heap.size, 0, none⟩) (Lib.countB s sep + 1) (Lib.countB s sep + 1)) ∧ w' = w.alloc (.cells ((Lib.splitB sep 0 (Lib.countB s sep) s).map Value.string).toArray 9) := Any.strings_Split Tryd.lays146 (by kernel_rfl) s sep m w hs hm h1
open Go.RowKit Go.Lib in
theorem Tryd.strings_TrimLeft_laid (s cutset : ByteArray) (w : World) (hcs : cutset.size < 4294967281)
    (hascii : ∀ (j : Nat) b, cutset.data.toList[j]? = some b → b.toNat < 128) :
    Calls Tryd.prog 38 #[.string s, .string cutset] w fun e w' => e = .returned (.string ⟨(Lib.trimLeftS s.data.toList cutset.data.toList).toArray⟩) ∧ Below w.heap.size w w' :=
  Any.strings_TrimLeft_laid Tryd.lays161 (by kernel_rfl) s cutset w hcs hascii
end Go.Proofs
