/-
 The contract of unicode/utf8.DecodeRune, laid at this program (written by the kit tool lay-plain).
-/
import Derived.Shelf.Spec.DecodeRune
import Derived.Test.YtplljfbbipeakaaDoorProg
namespace Go.Proofs
open Go.Shelf
def Tryd.lays7_32_ren : Go.Shelf.Ren := ⟨fun | 32 => 73 | 49 => 85 | n => n, fun | 30 => 81 | 21 => 21 | 3 => 3 | 0 => 0 | 5 => 5 | 4 => 4 | 33 => 117 | 66 => 134 | 25 => 71 | 69 => 137 | 68 => 136 | n => n, fun | 2 => 3 | 3 => 4 | n => n⟩
theorem Tryd.lays7_32 : Go.Proofs.Lays7.n32 Tryd.prog Tryd.lays7_32_ren := {
  mixed := by kernel_rfl
  f32 := Tryd.func73.trans (congrArg some (by kernel_rfl))
  f49 := Tryd.func85.trans (congrArg some (by kernel_rfl))
  t0 := Tryd.underlying0
  a0 := Tryd.isAgg0
  z0 := Tryd.sizeOf0
  v0 := Tryd.zeroValue0
  i0 := by kernel_rfl
  t3 := Tryd.underlying3
  a3 := Tryd.isAgg3
  z3 := Tryd.sizeOf3
  v3 := Tryd.zeroValue3
  i3 := by kernel_rfl
  t4 := Tryd.underlying4
  a4 := Tryd.isAgg4
  z4 := Tryd.sizeOf4
  v4 := Tryd.zeroValue4
  i4 := by kernel_rfl
  t5 := Tryd.underlying5
  a5 := Tryd.isAgg5
  z5 := Tryd.sizeOf5
  v5 := Tryd.zeroValue5
  i5 := by kernel_rfl
  t21 := Tryd.underlying21
  a21 := Tryd.isAgg21
  z21 := Tryd.sizeOf21
  v21 := Tryd.zeroValue21
  i21 := by kernel_rfl
  t25 := Tryd.underlying71
  a25 := Tryd.isAgg71
  z25 := Tryd.sizeOf71
  v25 := Tryd.zeroValue71
  i25 := by kernel_rfl
  t30 := Tryd.underlying81
  a30 := Tryd.isAgg81
  z30 := Tryd.sizeOf81
  v30 := Tryd.zeroValue81
  i30 := by kernel_rfl
  t33 := Tryd.underlying117
  a33 := Tryd.isAgg117
  z33 := Tryd.sizeOf117
  v33 := Tryd.zeroValue117
  i33 := by kernel_rfl
  t66 := Tryd.underlying134
  a66 := Tryd.isAgg134
  z66 := Tryd.sizeOf134
  t68 := Tryd.underlying136
  a68 := Tryd.isAgg136
  z68 := Tryd.sizeOf136
  v68 := Tryd.zeroValue136
  i68 := by kernel_rfl
  t69 := Tryd.underlying137
  a69 := Tryd.isAgg137
  z69 := Tryd.sizeOf137
  v69 := Tryd.zeroValue137
  i69 := by kernel_rfl
  g2 := by kernel_rfl
  g3 := by kernel_rfl }
open Go.RowKit Go.Lib in
theorem Tryd.utf8_DecodeRune (s : ByteArray) (b off cap : Nat) (w : World) (hT : Lib.Utf8Tabs 3 4 w)
    (hp : ∀ j, j < s.size → w.cell? ⟨b, off + j, none⟩ = some (.int .u8 (s.get! j).toNat)) :
    Calls Tryd.prog 73 #[.slice (some ⟨b, off, none⟩) s.size cap] w fun e w' => e = .returned (.tuple #[.int .i32 (Lib.decodeGo s).1, .int .i64 (Lib.decodeGo s).2]) ∧ Below w.heap.size w w' := Any7.utf8_DecodeRune Tryd.lays7_32 s b off cap w hT hp
end Go.Proofs
