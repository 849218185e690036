/-
  THE WALKS (any 1): bytealg.IndexByteString at the two line ends; makeASCIISet, contains.
-/
import Derived.Test.Qxb6003622aDoorBase
import Derived.Stop.CallBack
import Derived.Lib.Bytealg
namespace Go.Proofs.Qxb6003622aDoor
open Go.RowKit

attribute [local go_sem] Go.wp_at_zero Go.wp_at_succ

theorem call14 (args : Array Value) (w : World) : (callFunc 14 args).run Tryd.prog w = ((Extern.BytealgIndexByte.indexByte args).run Tryd.prog w).andThen fun v w' => .ok (.value v) w' :=
  run_callFunc_extern Tryd.func14 (by kernel_rfl) (by kernel_rfl) (by kernel_rfl) (by kernel_rfl) args w

theorem ends_14 (x : UInt8) (w : World) : (callFunc 14 #[.string ⟨#[13, 10]⟩, .int .u8 x.toNat]).run Tryd.prog w = .ok (.value (.int .i64 (if x = 13 then 0 else if x = 10 then 1 else -1))) w := by
  rw [call14, Lib.run_indexByteString]
  have hx : ((x.toNat : Int)).toNat.toUInt8 = x := by simp
  rw [hx]
  by_cases h1 : x = 13
  · subst h1; rfl
  · by_cases h2 : x = 10
    · subst h2; rfl
    · rw [if_neg h1, if_neg h2]
      have e : Lib.indexByte [13, 10] x = -1 := by
        simp [Lib.indexByte, Ne.symm h1, Ne.symm h2]
      simp only [Result.andThen]
      congr 3

end Go.Proofs.Qxb6003622aDoor
