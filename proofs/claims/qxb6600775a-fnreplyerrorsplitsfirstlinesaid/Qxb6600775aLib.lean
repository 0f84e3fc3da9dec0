/-
  SEAT b6600775a: the library's functions on the road, at this program: CutPrefix at "ERR ", Cut at a blank.
-/
import Derived.Test.Qxb6600775aProg
import Derived.WalkKit
import Derived.WalkSpells
import Derived.Lib.Bytealg
import Derived.Deep.QuietTactic
import Derived.BigQuiet
namespace Go.Proofs.Qxb6600775a
open Go.RowKit

theorem liteIndexByte_any (s : ByteArray) (c : Int) (w : World) :
    Calls Try.prog 16 #[.string s, .int .u8 c] w fun e w' => e = .returned (.int .i64 (Lib.indexByte s.data.toList c.toNat.toUInt8)) ∧ w' = w := by
  go_enter Try.func16, Try.ntmps16
  go_wp2
  rw [run_callFunc_extern Try.func20 (by kernel_rfl) (by kernel_rfl) (by kernel_rfl) (e := Extern.BytealgIndexByte.indexByte) (by kernel_rfl), Lib.run_indexByteString]
  simp only [Result.andThen]
  rw [Oper.upon_value]
  go_wp2
  go_ret
  exact ⟨rfl, rfl⟩

set_option maxRecDepth 100000 in
theorem index_one (s : ByteArray) (w : World) : Calls Try.prog 15 #[.string s, .string ⟨#[32]⟩] w fun e w' => e = .returned (.int .i64 (Lib.indexByte s.data.toList 32)) ∧ w' = w := by
  by_cases hs : s.data.toList = [32]
  · rw [hs]
    have hb : (([32] : List UInt8) == s.toList) = true := by rw [ByteArray.toList_eq, hs]; rfl
    go_enter Try.func15, Try.ntmps15
    go_wp2_with fail
    go_ret
    exact ⟨rfl, rfl⟩
  · have hb : (([32] : List UInt8) == s.toList) = false := by
      rw [ByteArray.toList_eq, beq_eq_false_iff_ne]; exact fun h => hs h.symm
    go_enter Try.func15, Try.ntmps15
    go_wp2_with (go_at_call 16; refine (liteIndexByte_any _ _ _).mono ?_; rintro e w' ⟨rfl, hw'⟩; obtain rfl := hw'.symm)
    go_ret
    exact ⟨rfl, rfl⟩

set_option maxRecDepth 100000 in
/-- A blank at place k. -/
theorem liteCut_yes (s : ByteArray) (k : Nat) (w : World) (hm : s.size ≤ 1099511627776) (hk : k < s.size) (hi : Lib.indexByte s.data.toList 32 = (k : Int)) :
    Calls Try.prog 13 #[.string s, .string ⟨#[32]⟩] w fun e w' => e = .returned (.tuple #[.string (s.extract 0 k), .string (s.extract (k + 1) s.size), .bool true]) ∧ ∃ n, w' = w.drewN n := by
  have HI : Hid (Lib.indexByte s.data.toList 32 = (k : Int)) := hi
  have k0 : (0 : Int) ≤ (k : Int) := by omega
  have k1 : (k : Int) ≤ (s.size : Int) := by omega
  have k2 : (k : Int) + 1 ≤ (s.size : Int) := by omega
  have k3 : (0 : Int) ≤ (k : Int) + 1 := by omega
  have k4 : IntKind.i64.wrap ((k : Int) + 1) = (k : Int) + 1 := by rw [IntKind.wrap_i64]; omega
  have k5 : ((k : Int) + 1).toNat = k + 1 := by omega
  clear hi
  go_enter Try.func13, Try.ntmps13
  go_wp2_with (go_at_call 15; refine (index_one _ _).mono ?_; rintro e w' ⟨rfl, hw'⟩; obtain rfl := hw'.symm; rw [HI.out])
  go_quiet (fail)
  go_wp2
  go_ret3
  exact ⟨rfl, _, rfl⟩

/-- No blank. -/
theorem liteCut_no (s : ByteArray) (w : World) (hi : Lib.indexByte s.data.toList 32 < 0) :
    Calls Try.prog 13 #[.string s, .string ⟨#[32]⟩] w fun e w' => e = .returned (.tuple #[.string s, .string ⟨#[]⟩, .bool false]) ∧ ∃ n, w' = w.drewN n := by
  obtain ⟨q, hq⟩ : ∃ q, q = Lib.indexByte s.data.toList 32 := ⟨_, rfl⟩
  rw [← hq] at hi
  have HI : Hid (Lib.indexByte s.data.toList 32 = q) := hq.symm
  clear hq
  go_enter Try.func13, Try.ntmps13
  go_wp2_with (go_at_call 15; refine (index_one _ _).mono ?_; rintro e w' ⟨rfl, hw'⟩; obtain rfl := hw'.symm; rw [HI.out])
  go_ret3
  exact ⟨rfl, 0, rfl⟩

theorem cut_yes (s : ByteArray) (k : Nat) (w : World) (hm : s.size ≤ 1099511627776) (hk : k < s.size) (hi : Lib.indexByte s.data.toList 32 = (k : Int)) :
    Calls Try.prog 11 #[.string s, .string ⟨#[32]⟩] w fun e w' => e = .returned (.tuple #[.string (s.extract 0 k), .string (s.extract (k + 1) s.size), .bool true]) ∧ ∃ n, w' = w.drewN n := by
  have HI : Hid (Lib.indexByte s.data.toList 32 = (k : Int)) := hi
  clear hi
  go_enter Try.func11, Try.ntmps11
  go_wp2_with fail
  refine (liteCut_yes s k w hm hk HI.out).mono ?_
  rintro e w' ⟨rfl, n, rfl⟩
  go_wp2
  go_ret3
  exact ⟨rfl, n, rfl⟩
theorem cut_no (s : ByteArray) (w : World) (hi : Lib.indexByte s.data.toList 32 < 0) :
    Calls Try.prog 11 #[.string s, .string ⟨#[32]⟩] w fun e w' => e = .returned (.tuple #[.string s, .string ⟨#[]⟩, .bool false]) ∧ ∃ n, w' = w.drewN n := by
  have HI : Hid (Lib.indexByte s.data.toList 32 < 0) := hi
  clear hi
  go_enter Try.func11, Try.ntmps11
  go_wp2_with fail
  refine (liteCut_no s w HI.out).mono ?_
  rintro e w' ⟨rfl, n, rfl⟩
  go_wp2
  go_ret3
  exact ⟨rfl, n, rfl⟩


theorem cutPrefix_yes (s : ByteArray) (w : World) (h4 : 4 ≤ s.size) (hp : ((s.extract 0 4).toList == [69, 82, 82, 32]) = true) :
    Calls Try.prog 10 #[.string s, .string ⟨#[69, 82, 82, 32]⟩] w fun e w' => e = .returned (.tuple #[.string (s.extract 4 s.size), .bool true]) ∧ w' = w := by
  go_enter Try.func10, Try.ntmps10
  go_wp2
  go_ret2
  exact ⟨rfl, rfl⟩
theorem cutPrefix_no (s : ByteArray) (w : World) (h4 : 4 ≤ s.size) (hp : ((s.extract 0 4).toList == [69, 82, 82, 32]) = false) :
    Calls Try.prog 10 #[.string s, .string ⟨#[69, 82, 82, 32]⟩] w fun e w' => e = .returned (.tuple #[.string s, .bool false]) ∧ w' = w := by
  go_enter Try.func10, Try.ntmps10
  go_wp2
  go_ret2
  exact ⟨rfl, rfl⟩
theorem cutPrefix_short (s : ByteArray) (w : World) (h4 : s.size < 4) :
    Calls Try.prog 10 #[.string s, .string ⟨#[69, 82, 82, 32]⟩] w fun e w' => e = .returned (.tuple #[.string s, .bool false]) ∧ w' = w := by
  have d : decide ((4 : Int) ≤ (s.size : Int)) = false := decide_eq_false (by omega)
  go_enter Try.func10, Try.ntmps10
  go_wp2
  go_ret2
  exact ⟨rfl, rfl⟩
end Go.Proofs.Qxb6600775a
