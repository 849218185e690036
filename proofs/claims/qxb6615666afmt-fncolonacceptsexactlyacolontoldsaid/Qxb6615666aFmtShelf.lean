/-
  THE SHELF's CONTRACTS of utf8.DecodeRune and utf8.RuneCount at this program.
-/
import Derived.Shelf.Spec.DecodeRune
import Derived.Shelf.Spec.RuneCount
import Derived.Test.Qxb6615666aFmtProg
namespace Go.Proofs
open Go.Shelf
def Tryf.lays7_ren : Go.Shelf.Ren := ⟨fun | 32 => 17 | 49 => 23 | 31 => 22 | 48 => 27 | n => n, fun | 25 => 85 | 30 => 22 | 33 => 73 | 66 => 84 | 68 => 87 | 69 => 88 | n => n, fun | 2 => 0 | 3 => 1 | n => n⟩
theorem Tryf.lays32 : Go.Proofs.Lays7.n32 Tryf.prog Tryf.lays7_ren := {
  mixed := by kernel_rfl
  f32 := Tryf.func17.trans (congrArg some (by kernel_rfl))
  f49 := Tryf.func23.trans (congrArg some (by kernel_rfl))
  t0 := Tryf.underlying0
  a0 := Tryf.isAgg0
  z0 := Tryf.sizeOf0
  v0 := Tryf.zeroValue0
  i0 := by kernel_rfl
  t3 := Tryf.underlying3
  a3 := Tryf.isAgg3
  z3 := Tryf.sizeOf3
  v3 := Tryf.zeroValue3
  i3 := by kernel_rfl
  t4 := Tryf.underlying4
  a4 := Tryf.isAgg4
  z4 := Tryf.sizeOf4
  v4 := Tryf.zeroValue4
  i4 := by kernel_rfl
  t5 := Tryf.underlying5
  a5 := Tryf.isAgg5
  z5 := Tryf.sizeOf5
  v5 := Tryf.zeroValue5
  i5 := by kernel_rfl
  t21 := Tryf.underlying21
  a21 := Tryf.isAgg21
  z21 := Tryf.sizeOf21
  v21 := Tryf.zeroValue21
  i21 := by kernel_rfl
  t25 := Tryf.underlying85
  a25 := Tryf.isAgg85
  z25 := Tryf.sizeOf85
  v25 := Tryf.zeroValue85
  i25 := by kernel_rfl
  t30 := Tryf.underlying22
  a30 := Tryf.isAgg22
  z30 := Tryf.sizeOf22
  v30 := Tryf.zeroValue22
  i30 := by kernel_rfl
  t33 := Tryf.underlying73
  a33 := Tryf.isAgg73
  z33 := Tryf.sizeOf73
  v33 := Tryf.zeroValue73
  i33 := by kernel_rfl
  t66 := Tryf.underlying84
  a66 := Tryf.isAgg84
  z66 := Tryf.sizeOf84
  t68 := Tryf.underlying87
  a68 := Tryf.isAgg87
  z68 := Tryf.sizeOf87
  v68 := Tryf.zeroValue87
  i68 := by kernel_rfl
  t69 := Tryf.underlying88
  a69 := Tryf.isAgg88
  z69 := Tryf.sizeOf88
  v69 := Tryf.zeroValue88
  i69 := by kernel_rfl
  g2 := by kernel_rfl
  g3 := by kernel_rfl }
theorem Tryf.lays31 : Go.Proofs.Lays7.n31 Tryf.prog Tryf.lays7_ren := {
  mixed := by kernel_rfl
  f31 := Tryf.func22.trans (congrArg some (by kernel_rfl))
  f48 := Tryf.func27.trans (congrArg some (by kernel_rfl))
  t0 := Tryf.underlying0
  a0 := Tryf.isAgg0
  z0 := Tryf.sizeOf0
  v0 := Tryf.zeroValue0
  i0 := by kernel_rfl
  t3 := Tryf.underlying3
  a3 := Tryf.isAgg3
  z3 := Tryf.sizeOf3
  v3 := Tryf.zeroValue3
  i3 := by kernel_rfl
  t4 := Tryf.underlying4
  a4 := Tryf.isAgg4
  z4 := Tryf.sizeOf4
  v4 := Tryf.zeroValue4
  i4 := by kernel_rfl
  t5 := Tryf.underlying5
  a5 := Tryf.isAgg5
  z5 := Tryf.sizeOf5
  v5 := Tryf.zeroValue5
  i5 := by kernel_rfl
  t9 := Tryf.underlying9
  a9 := Tryf.isAgg9
  z9 := Tryf.sizeOf9
  v9 := Tryf.zeroValue9
  i9 := by kernel_rfl
  t30 := Tryf.underlying22
  a30 := Tryf.isAgg22
  z30 := Tryf.sizeOf22
  v30 := Tryf.zeroValue22
  i30 := by kernel_rfl }
open Go.RowKit Go.Lib in
theorem Tryf.utf8_DecodeRune (s : ByteArray) (b off cap : Nat) (w : World) (hT : Lib.Utf8Tabs 0 1 w) (hp : ∀ j, j < s.size → w.cell? ⟨b, off + j, none⟩ = some (.int .u8 (s.get! j).toNat)) :
    Calls Tryf.prog 17 #[.slice (some ⟨b, off, none⟩) s.size cap] w fun e w' => e = .returned (.tuple #[.int .i32 (Lib.decodeGo s).1, .int .i64 (Lib.decodeGo s).2]) ∧ Below w.heap.size w w' := Any7.utf8_DecodeRune Tryf.lays32 s b off cap w hT hp
open Go.RowKit Go.Lib in
theorem Tryf.utf8_RuneCount (s : ByteArray) (b off cap : Nat) (w : World) (hcap : s.size ≤ cap) (hp : ∀ j, j < s.size → w.cell? ⟨b, off + j, none⟩ = some (.int .u8 (s.get! j).toNat)) (hs : s.size < 9223372036854775807) :
    Calls Tryf.prog 22 #[.slice (some ⟨b, off, none⟩) s.size cap] w fun e w' => e = .returned (.int .i64 (Lib.runeCount s)) ∧ (w' = w ∨ ∃ t pos, w' = w.iter t pos) := Any7.utf8_RuneCount Tryf.lays31 s b off cap w hcap hp hs
end Go.Proofs
