import Derived.Shelf.Bytes.SlIndexSmall
import Derived.Shelf.Bytes.SlSmallAll
import Derived.Ground.SlbtProg
import Derived.Shelf.Bytes.SlCut
import Derived.Ground.Names7Prog
import Derived.Shelf.Spec.DecodeRune
import Derived.Ground.SlbvProg
import Derived.Shelf.Bytes.SlTrimWalks
import Derived.Test.Qxb6602599aDoorProg
namespace Go.Proofs
open Go.Shelf
def Tryd.lays185_ren : Go.Shelf.Ren := ⟨fun | 185 => 40 | 187 => 34 | 115 => 44 | 253 => 38 | 224 => 37 | 254 => 45 | 255 => 42 | 291 => 46 | n => n, fun | 37 => 22 | 3 => 3 | 4 => 4 | 0 => 0 | 5 => 5 | 46 => 71 | 9 => 9 | 146 => 79 | 51 => 74 | n => n, fun | 1 => 0 | n => n⟩
theorem Tryd.lays185 : Go.Proofs.Lays.n185 Tryd.prog Tryd.lays185_ren := {
  mixed := by kernel_rfl
  f115 := Tryd.func44.trans (congrArg some (by kernel_rfl))
  f185 := Tryd.func40.trans (congrArg some (by kernel_rfl))
  f187 := Tryd.func34.trans (congrArg some (by kernel_rfl))
  f224 := Tryd.func37.trans (congrArg some (by kernel_rfl))
  f253 := Tryd.func38.trans (congrArg some (by kernel_rfl))
  f254 := Tryd.func45.trans (congrArg some (by kernel_rfl))
  f255 := Tryd.func42.trans (congrArg some (by kernel_rfl))
  f291 := Tryd.func46.trans (congrArg some (by kernel_rfl))
  t0 := Tryd.underlying0
  a0 := Tryd.isAgg0
  z0 := Tryd.sizeOf0
  v0 := Tryd.zeroValue0
  t3 := Tryd.underlying3
  a3 := Tryd.isAgg3
  z3 := Tryd.sizeOf3
  v3 := Tryd.zeroValue3
  t4 := Tryd.underlying4
  a4 := Tryd.isAgg4
  z4 := Tryd.sizeOf4
  v4 := Tryd.zeroValue4
  t5 := Tryd.underlying5
  a5 := Tryd.isAgg5
  z5 := Tryd.sizeOf5
  v5 := Tryd.zeroValue5
  t9 := Tryd.underlying9
  a9 := Tryd.isAgg9
  z9 := Tryd.sizeOf9
  v9 := Tryd.zeroValue9
  t37 := Tryd.underlying22
  a37 := Tryd.isAgg22
  z37 := Tryd.sizeOf22
  v37 := Tryd.zeroValue22
  t46 := Tryd.underlying71
  a46 := Tryd.isAgg71
  z46 := Tryd.sizeOf71
  v46 := Tryd.zeroValue71
  t51 := Tryd.underlying74
  a51 := Tryd.isAgg74
  z51 := Tryd.sizeOf74
  v51 := Tryd.zeroValue74
  t146 := Tryd.underlying79
  a146 := Tryd.isAgg79
  z146 := Tryd.sizeOf79
  v146 := Tryd.zeroValue79
  g1 := by kernel_rfl }
open Go.RowKit Go.Lib in
theorem Tryd.bytes_Index_one (b o n c b2 o2 d : Nat) (xs : List Int) (cv : Int) (w : World) (hx : xs.length = n) (hc : ∀ i, i < n → w.cell? ⟨b, o + i, none⟩ = some (.int .u8 (xs.getD i 0))) (hc2 : w.cell? ⟨b2, o2, none⟩ = some (.int .u8 cv)) :
    Calls Tryd.prog 40 #[.slice (some ⟨b, o, none⟩) n c, .slice (some ⟨b2, o2, none⟩) 1 d] w fun e w' => e = .returned (.int .i64 (Lib.indexByte (Lib.bytesOf xs) cv.toNat.toUInt8)) ∧ w' = w := Any.bytes_Index_one Tryd.lays185 b o n c b2 o2 d xs cv w hx hc hc2
open Go.RowKit Go.Lib in
theorem Tryd.bytes_Index_one_nil (b2 o2 d : Nat) (cv : Int) (w : World) (hc2 : w.cell? ⟨b2, o2, none⟩ = some (.int .u8 cv)) :
    Calls Tryd.prog 40 #[.slice none 0 0, .slice (some ⟨b2, o2, none⟩) 1 d] w fun e w' => e = .returned (.int .i64 (-1)) ∧ w' = w := Any.bytes_Index_one_nil Tryd.lays185 b2 o2 d cv w hc2
def Tryd.laysnb141_ren : Go.Shelf.Ren := ⟨fun | 141 => 33 | 116 => 41 | 115 => 44 | n => n, fun | 37 => 22 | 4 => 4 | 3 => 3 | 9 => 9 | 5 => 5 | n => n, fun | n => n⟩
theorem Tryd.laysnb141 : Go.Proofs.Lays.nb141 Tryd.prog Tryd.laysnb141_ren := {
  mixed := by kernel_rfl
  f115 := Tryd.func44.trans (congrArg some (by kernel_rfl))
  f116 := Tryd.func41.trans (congrArg some (by kernel_rfl))
  f141 := Tryd.func33.trans (congrArg some (by kernel_rfl))
  t3 := Tryd.underlying3
  a3 := Tryd.isAgg3
  z3 := Tryd.sizeOf3
  v3 := Tryd.zeroValue3
  t4 := Tryd.underlying4
  a4 := Tryd.isAgg4
  z4 := Tryd.sizeOf4
  v4 := Tryd.zeroValue4
  t9 := Tryd.underlying9
  a9 := Tryd.isAgg9
  z9 := Tryd.sizeOf9
  v9 := Tryd.zeroValue9
  t37 := Tryd.underlying22
  a37 := Tryd.isAgg22
  z37 := Tryd.sizeOf22
  v37 := Tryd.zeroValue22
  t5 := Tryd.underlying5
  a5 := Tryd.isAgg5
  z5 := Tryd.sizeOf5
  v5 := Tryd.zeroValue5 }
theorem Tryd.bytes_CutPrefix_all (p1 p2 : Option Addr) (n c m d : Nat) (xs ys : List Int) (w : World) (hx : xs.length = n) (hy : ys.length = m) (hnc : n ≤ c) (h1 : Lib.BytesIn w p1 n xs) (h2 : Lib.BytesIn w p2 m ys) :
    Calls Tryd.prog 33 #[.slice p1 n c, .slice p2 m d] w fun e w' => e = .returned (.tuple #[Lib.trimPrefixV p1 n c xs ys, .bool (Lib.hasPrefix (Lib.bytesOf xs) (Lib.bytesOf ys))]) ∧ w' = w := Any.bytes_CutPrefix_all Tryd.laysnb141 p1 p2 n c m d xs ys w hx hy hnc h1 h2
def Tryd.laysSlT4_ren : Go.Shelf.Ren := ⟨fun | 4 => 32 | 5 => 40 | 6 => 34 | 7 => 44 | 8 => 38 | 9 => 37 | 10 => 45 | 11 => 42 | 12 => 46 | n => n, fun | 22 => 22 | 4 => 4 | 3 => 3 | 0 => 0 | 5 => 5 | 29 => 71 | 9 => 9 | 31 => 79 | 30 => 74 | n => n, fun | 0 => 0 | n => n⟩
theorem Tryd.laysSlT4 : Go.Proofs.SlLaysT.n4 Tryd.prog Tryd.laysSlT4_ren := {
  mixed := by kernel_rfl
  f4 := Tryd.func32.trans (congrArg some (by kernel_rfl))
  f5 := Tryd.func40.trans (congrArg some (by kernel_rfl))
  f6 := Tryd.func34.trans (congrArg some (by kernel_rfl))
  f7 := Tryd.func44.trans (congrArg some (by kernel_rfl))
  f8 := Tryd.func38.trans (congrArg some (by kernel_rfl))
  f9 := Tryd.func37.trans (congrArg some (by kernel_rfl))
  f10 := Tryd.func45.trans (congrArg some (by kernel_rfl))
  f11 := Tryd.func42.trans (congrArg some (by kernel_rfl))
  f12 := Tryd.func46.trans (congrArg some (by kernel_rfl))
  t0 := Tryd.underlying0
  a0 := Tryd.isAgg0
  z0 := Tryd.sizeOf0
  v0 := Tryd.zeroValue0
  t3 := Tryd.underlying3
  a3 := Tryd.isAgg3
  z3 := Tryd.sizeOf3
  v3 := Tryd.zeroValue3
  t4 := Tryd.underlying4
  a4 := Tryd.isAgg4
  z4 := Tryd.sizeOf4
  v4 := Tryd.zeroValue4
  t5 := Tryd.underlying5
  a5 := Tryd.isAgg5
  z5 := Tryd.sizeOf5
  v5 := Tryd.zeroValue5
  t9 := Tryd.underlying9
  a9 := Tryd.isAgg9
  z9 := Tryd.sizeOf9
  v9 := Tryd.zeroValue9
  t22 := Tryd.underlying22
  a22 := Tryd.isAgg22
  z22 := Tryd.sizeOf22
  v22 := Tryd.zeroValue22
  t29 := Tryd.underlying71
  a29 := Tryd.isAgg71
  z29 := Tryd.sizeOf71
  v29 := Tryd.zeroValue71
  t30 := Tryd.underlying74
  a30 := Tryd.isAgg74
  z30 := Tryd.sizeOf74
  v30 := Tryd.zeroValue74
  t31 := Tryd.underlying79
  a31 := Tryd.isAgg79
  z31 := Tryd.sizeOf79
  v31 := Tryd.zeroValue79
  g0 := by kernel_rfl }
theorem Tryd.bytes_Cut_of (p1 p2 : Option Addr) (n c1 k c2 : Nat) (i : Int) (w : World) (hcap : n ≤ c1) (hlo : -1 ≤ i) (hroom : 0 ≤ i → i + k ≤ n) (hn : n ≤ 4611686018427387904) (hidx : Calls Tryd.prog 40 #[.slice p1 n c1, .slice p2 k c2] w fun e w' => e = .returned (.int .i64 i) ∧ ∃ q, w' = w.drewN q) :
    Calls Tryd.prog 32 #[.slice p1 n c1, .slice p2 k c2] w fun e w' => e = .returned (Lib.cutV p1 n c1 k i) ∧ ∃ q, w' = w.drewN q := Any.bytes_Cut_of Tryd.laysSlT4 p1 p2 n c1 k c2 i w hcap hlo hroom hn hidx
def Tryd.lays7n32_ren : Go.Shelf.Ren := ⟨fun | 32 => 30 | 49 => 39 | n => n, fun | 30 => 22 | 21 => 21 | 3 => 3 | 0 => 0 | 5 => 5 | 4 => 4 | 33 => 60 | 66 => 75 | 25 => 71 | 69 => 78 | 68 => 77 | n => n, fun | 2 => 1 | 3 => 2 | n => n⟩
theorem Tryd.lays7n32 : Go.Proofs.Lays7.n32 Tryd.prog Tryd.lays7n32_ren := {
  mixed := by kernel_rfl
  f32 := Tryd.func30.trans (congrArg some (by kernel_rfl))
  f49 := Tryd.func39.trans (congrArg some (by kernel_rfl))
  t0 := Tryd.underlying0
  a0 := Tryd.isAgg0
  z0 := Tryd.sizeOf0
  v0 := Tryd.zeroValue0
  i0 := by kernel_rfl
  t3 := Tryd.underlying3
  a3 := Tryd.isAgg3
  z3 := Tryd.sizeOf3
  v3 := Tryd.zeroValue3
  i3 := by kernel_rfl
  t4 := Tryd.underlying4
  a4 := Tryd.isAgg4
  z4 := Tryd.sizeOf4
  v4 := Tryd.zeroValue4
  i4 := by kernel_rfl
  t5 := Tryd.underlying5
  a5 := Tryd.isAgg5
  z5 := Tryd.sizeOf5
  v5 := Tryd.zeroValue5
  i5 := by kernel_rfl
  t21 := Tryd.underlying21
  a21 := Tryd.isAgg21
  z21 := Tryd.sizeOf21
  v21 := Tryd.zeroValue21
  i21 := by kernel_rfl
  t25 := Tryd.underlying71
  a25 := Tryd.isAgg71
  z25 := Tryd.sizeOf71
  v25 := Tryd.zeroValue71
  i25 := by kernel_rfl
  t30 := Tryd.underlying22
  a30 := Tryd.isAgg22
  z30 := Tryd.sizeOf22
  v30 := Tryd.zeroValue22
  i30 := by kernel_rfl
  t33 := Tryd.underlying60
  a33 := Tryd.isAgg60
  z33 := Tryd.sizeOf60
  v33 := Tryd.zeroValue60
  i33 := by kernel_rfl
  t66 := Tryd.underlying75
  a66 := Tryd.isAgg75
  z66 := Tryd.sizeOf75
  t68 := Tryd.underlying77
  a68 := Tryd.isAgg77
  z68 := Tryd.sizeOf77
  v68 := Tryd.zeroValue77
  i68 := by kernel_rfl
  t69 := Tryd.underlying78
  a69 := Tryd.isAgg78
  z69 := Tryd.sizeOf78
  v69 := Tryd.zeroValue78
  i69 := by kernel_rfl
  g2 := by kernel_rfl
  g3 := by kernel_rfl }
open Go.RowKit Go.Lib in
theorem Tryd.utf8_DecodeRune (s : ByteArray) (b off cap : Nat) (w : World) (hT : Lib.Utf8Tabs (Tryd.lays7n32_ren.g 2) (Tryd.lays7n32_ren.g 3) w) (hp : ∀ j, j < s.size → w.cell? ⟨b, off + j, none⟩ = some (.int .u8 (s.get! j).toNat)) :
    Calls Tryd.prog 30 #[.slice (some ⟨b, off, none⟩) s.size cap] w fun e w' => e = .returned (.tuple #[.int .i32 (Lib.decodeGo s).1, .int .i64 (Lib.decodeGo s).2]) ∧ Below w.heap.size w w' := Any7.utf8_DecodeRune Tryd.lays7n32 s b off cap w hT hp
def Tryd.laysV11_ren : Go.Shelf.Ren := ⟨fun | 11 => 28 | n => n, fun | 9 => 9 | 27 => 56 | 4 => 4 | 0 => 0 | 3 => 3 | 5 => 5 | n => n, fun | n => n⟩
theorem Tryd.laysV11 : Go.Proofs.SlLaysV.n11 Tryd.prog Tryd.laysV11_ren := {
  mixed := by kernel_rfl
  f11 := Tryd.func28.trans (congrArg some (by kernel_rfl))
  t0 := Tryd.underlying0
  a0 := Tryd.isAgg0
  z0 := Tryd.sizeOf0
  v0 := Tryd.zeroValue0
  t3 := Tryd.underlying3
  a3 := Tryd.isAgg3
  z3 := Tryd.sizeOf3
  v3 := Tryd.zeroValue3
  t4 := Tryd.underlying4
  a4 := Tryd.isAgg4
  z4 := Tryd.sizeOf4
  v4 := Tryd.zeroValue4
  t5 := Tryd.underlying5
  a5 := Tryd.isAgg5
  z5 := Tryd.sizeOf5
  v5 := Tryd.zeroValue5
  t9 := Tryd.underlying9
  a9 := Tryd.isAgg9
  z9 := Tryd.sizeOf9
  v9 := Tryd.zeroValue9
  t27 := Tryd.underlying56
  a27 := Tryd.isAgg56
  z27 := Tryd.sizeOf56 }
theorem Tryd.zero56 (w : World) : (zeroValue 56).run Tryd.prog w = .ok (.agg (Array.replicate 256 (.bool false))) w := by kernel_rfl
theorem Tryd.bytes_makeASCIISet (chars : ByteArray) (w : World) (hs : chars.size < 4294967281) (hascii : ∀ (j : Nat) b, chars.data.toList[j]? = some b → b.toNat < 128) :
    Calls Tryd.prog 28 #[.string chars] w fun e w' => e = .returned (.tuple #[.agg (Lib.setCells chars.data.toList), .bool true]) ∧ w' = w.alloc (.cells (Lib.setCells chars.data.toList) 56) := Any.bytes_makeASCIISet Tryd.laysV11 Tryd.zero56 (by kernel_rfl) chars w hs hascii
def Tryd.laysV16_ren : Go.Shelf.Ren := ⟨fun | 16 => 29 | n => n, fun | 31 => 73 | 5 => 5 | 4 => 4 | 0 => 0 | 27 => 56 | n => n, fun | n => n⟩
theorem Tryd.laysV16 : Go.Proofs.SlLaysV.n16 Tryd.prog Tryd.laysV16_ren := {
  mixed := by kernel_rfl
  f16 := Tryd.func29.trans (congrArg some (by kernel_rfl))
  t0 := Tryd.underlying0
  a0 := Tryd.isAgg0
  z0 := Tryd.sizeOf0
  v0 := Tryd.zeroValue0
  t4 := Tryd.underlying4
  a4 := Tryd.isAgg4
  z4 := Tryd.sizeOf4
  v4 := Tryd.zeroValue4
  t5 := Tryd.underlying5
  a5 := Tryd.isAgg5
  z5 := Tryd.sizeOf5
  v5 := Tryd.zeroValue5
  t27 := Tryd.underlying56
  a27 := Tryd.isAgg56
  z27 := Tryd.sizeOf56
  t31 := Tryd.underlying73
  a31 := Tryd.isAgg73
  z31 := Tryd.sizeOf73
  v31 := Tryd.zeroValue73 }
theorem Tryd.bytes_asciiSet_contains (b : Nat) (x : UInt8) (v : Bool) (w : World) (hc : w.cell? ⟨b, x.toNat, none⟩ = some (.bool v)) :
    Calls Tryd.prog 29 #[.pointer (some ⟨b, 0, none⟩), .int .u8 x.toNat] w fun e w' => e = .returned (.bool v) ∧ w' = w := Any.bytes_asciiSet_contains Tryd.laysV16 b x v w hc
end Go.Proofs
