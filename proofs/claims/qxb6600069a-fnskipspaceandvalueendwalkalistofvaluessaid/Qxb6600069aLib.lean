/-
  SEAT b6600069a: strings.IndexByte at this program.
-/
import Derived.Test.Qxb6600069aProg
import Derived.WalkKit
import Derived.Lib.Bytealg
namespace Go.Proofs.Qxb6600069a
open Go.RowKit

theorem liteIndexByte_any (s : ByteArray) (c : Int) (w : World) :
    Calls Try.prog 34 #[.string s, .int .u8 c] w fun e w' => e = .returned (.int .i64 (Lib.indexByte s.data.toList c.toNat.toUInt8)) ∧ w' = w := by
  go_enter Try.func34, Try.ntmps34
  go_wp2
  rw [run_callFunc_extern Try.func35 (by kernel_rfl) (by kernel_rfl) (by kernel_rfl) (e := Extern.BytealgIndexByte.indexByte) (by kernel_rfl), Lib.run_indexByteString]
  simp only [Result.andThen]
  rw [Oper.upon_value]
  go_wp2
  go_ret
  exact ⟨rfl, rfl⟩

theorem indexByte_any (s : ByteArray) (c : Int) (w : World) :
    Calls Try.prog 33 #[.string s, .int .u8 c] w fun e w' => e = .returned (.int .i64 (Lib.indexByte s.data.toList c.toNat.toUInt8)) ∧ w' = w := by
  go_enter Try.func33, Try.ntmps33
  go_wp2_with (go_at_call 34; refine (liteIndexByte_any _ _ _).mono ?_; rintro e w' ⟨rfl, rfl⟩)
  go_ret
  exact ⟨rfl, rfl⟩
end Go.Proofs.Qxb6600069a
