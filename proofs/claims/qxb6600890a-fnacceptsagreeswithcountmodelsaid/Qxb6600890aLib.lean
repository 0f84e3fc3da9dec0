/-
  SEAT b6600890a: the library's functions on the road; Pattern, Match, unit.
-/
import Derived.Test.Qxb6600890aProg
import Derived.WalkKit
import Derived.WalkSpells
import Derived.Lib.Bytealg
import Derived.Deep.QuietTactic
import Derived.BigQuiet
import Derived.Below
namespace Go.Proofs.Qxb6600890a
open Go.RowKit

/-- From w to w' nothing that was there has turned. -/
def Grew (w w' : World) : Prop := Below w.heap.size w w'
theorem Grew.refl (w : World) : Grew w w := Below.refl _ _
theorem Grew.trans {a b c : World} (h : Grew a b) (k : Grew b c) : Grew a c := Below.trans h (Below.mono k (Below.size h))
theorem Grew.alloc (w : World) (o : Obj) : Grew w (w.alloc o) := (Below.refl _ _).alloc (Nat.le_refl _) o
theorem Grew.cell {w w' : World} (h : Grew w w') {p : Addr} {v : Value} (hc : w.cell? p = some v) : w'.cell? p = some v := (Below.cell h (World.block_lt_of_cell? w p hc)).trans hc
theorem Grew.drewN {w w' : World} (h : Grew w w') (n : Nat) : Grew w (w'.drewN n) := ⟨h.os, h.tape, h.output, h.size, h.block⟩

theorem ret_bool {a b : Bool} (h : a = b) : Ending.returned (.bool a) = .returned (.bool b) := by rw [h]
theorem ret_int {k : IntKind} {a b : Int} (h : a = b) : Ending.returned (.int k a) = .returned (.int k b) := by rw [h]
theorem ret_str {a b : ByteArray} (h : a = b) : Ending.returned (.string a) = .returned (.string b) := by rw [h]

theorem liteIndexByte_any (s : ByteArray) (c : Int) (w : World) :
    Calls Try.prog 46 #[.string s, .int .u8 c] w fun e w' => e = .returned (.int .i64 (Lib.indexByte s.data.toList c.toNat.toUInt8)) ∧ w' = w := by
  go_enter Try.func46, Try.ntmps46
  go_wp2
  rw [run_callFunc_extern Try.func48 (by kernel_rfl) (by kernel_rfl) (by kernel_rfl) (e := Extern.BytealgIndexByte.indexByte) (by kernel_rfl), Lib.run_indexByteString]
  simp only [Result.andThen]
  rw [Oper.upon_value]
  go_wp2
  go_ret
  exact ⟨rfl, rfl⟩
theorem indexByte_any (s : ByteArray) (w : World) :
    Calls Try.prog 43 #[.string s, .int .u8 47] w fun e w' => e = .returned (.int .i64 (Lib.indexByte s.data.toList 47)) ∧ w' = w := by
  go_enter Try.func43, Try.ntmps43
  go_wp2_with (go_at_call 46; refine (liteIndexByte_any _ _ _).mono ?_; rintro e w' ⟨rfl, hw'⟩; obtain rfl := hw'.symm)
  go_ret
  exact ⟨rfl, rfl⟩

theorem liteHasPrefix_long (s p : ByteArray) (w : World) (h : p.size ≤ s.size) :
    Calls Try.prog 42 #[.string s, .string p] w fun e w' => e = .returned (.bool ((s.extract 0 p.size).toList == p.toList)) ∧ w' = w := by
  go_enter Try.func42, Try.ntmps42
  go_wp2
  go_ret
  exact ⟨rfl, rfl⟩
theorem hasPrefix_long (s p : ByteArray) (w : World) (h : p.size ≤ s.size) :
    Calls Try.prog 35 #[.string s, .string p] w fun e w' => e = .returned (.bool ((s.extract 0 p.size).toList == p.toList)) ∧ w' = w := by
  go_enter Try.func35, Try.ntmps35
  go_wp2_with (go_at_call 42; refine (liteHasPrefix_long _ _ _ h).mono ?_; rintro e w' ⟨rfl, hw'⟩; obtain rfl := hw'.symm)
  go_ret
  exact ⟨rfl, rfl⟩

/-- A pattern's value. -/
def pat (b : ByteArray) (t : Bool) : Value := .agg #[.string b, .bool t]

theorem pattern_any (b : ByteArray) (t : Bool) (w : World) : Calls Try.prog 13 #[.string b, .bool t] w fun e w' => e = .returned (pat b t) ∧ Grew w w' := by
  go_enter Try.func13, Try.ntmps13
  go_wp2
  refine bodyPost_ret (v := .agg #[.string b, .bool t]) (by simp [results, Try.results13, go_sem]) rfl ⟨rfl, Grew.alloc _ _⟩

/-- What Match answers. -/
def matchB (b : ByteArray) (t : Bool) (n : ByteArray) : Bool :=
  (n.toList == b.toList) || (t && ((b.toList == [46]) || (decide (b.size < n.size) && ((n.data.toList[b.size]? == some 47) && ((n.extract 0 b.size).toList == b.toList)))))

theorem match_eq (b n : ByteArray) (t : Bool) (w : World) (h : (n.toList == b.toList) = true) : Calls Try.prog 14 #[pat b t, .string n] w fun e w' => e = .returned (.bool true) ∧ Grew w w' := by
  unfold pat
  go_enter Try.func14, Try.ntmps14
  go_wp2
  go_ret
  exact ⟨rfl, Grew.alloc _ _⟩
theorem match_flat (b n : ByteArray) (w : World) (h : (n.toList == b.toList) = false) : Calls Try.prog 14 #[pat b false, .string n] w fun e w' => e = .returned (.bool false) ∧ Grew w w' := by
  unfold pat
  go_enter Try.func14, Try.ntmps14
  go_wp2
  go_ret
  exact ⟨rfl, Grew.alloc _ _⟩
theorem match_dot (b n : ByteArray) (w : World) (h : (n.toList == b.toList) = false) (h2 : (b.toList == [46]) = true) : Calls Try.prog 14 #[pat b true, .string n] w fun e w' => e = .returned (.bool true) ∧ Grew w w' := by
  unfold pat
  go_enter Try.func14, Try.ntmps14
  go_wp2
  go_ret
  exact ⟨rfl, Grew.alloc _ _⟩
theorem match_short (b n : ByteArray) (w : World) (h : (n.toList == b.toList) = false) (h2 : (b.toList == [46]) = false) (h3 : ¬ b.size < n.size) : Calls Try.prog 14 #[pat b true, .string n] w fun e w' => e = .returned (.bool false) ∧ Grew w w' := by
  have d : decide ((b.size : Int) < (n.size : Int)) = false := decide_eq_false (by omega)
  unfold pat
  go_enter Try.func14, Try.ntmps14
  go_wp2
  go_ret
  exact ⟨rfl, Grew.alloc _ _⟩
theorem match_mid (b n : ByteArray) (w : World) (h : (n.toList == b.toList) = false) (h2 : (b.toList == [46]) = false) (h3 : b.size < n.size) (h4 : (((n[b.size].toNat : Nat) : Int) == 47) = false) : Calls Try.prog 14 #[pat b true, .string n] w fun e w' => e = .returned (.bool false) ∧ Grew w w' := by
  have d : decide ((b.size : Int) < (n.size : Int)) = true := decide_eq_true (by omega)
  unfold pat
  go_enter Try.func14, Try.ntmps14
  go_wp2
  go_ret
  exact ⟨rfl, Grew.alloc _ _⟩
theorem match_long (b n : ByteArray) (w : World) (h : (n.toList == b.toList) = false) (h2 : (b.toList == [46]) = false) (h3 : b.size < n.size) (h4 : (((n[b.size].toNat : Nat) : Int) == 47) = true) : Calls Try.prog 14 #[pat b true, .string n] w fun e w' => e = .returned (.bool ((n.extract 0 b.size).toList == b.toList)) ∧ Grew w w' := by
  have d : decide ((b.size : Int) < (n.size : Int)) = true := decide_eq_true (by omega)
  unfold pat
  go_enter Try.func14, Try.ntmps14
  go_wp2_with (go_at_call 35; refine (hasPrefix_long _ _ _ (by omega)).mono ?_; rintro e w' ⟨rfl, hw'⟩; obtain rfl := hw'.symm)
  go_ret
  exact ⟨rfl, Grew.alloc _ _⟩

theorem byte_int (u : UInt8) (v : UInt8) : (u == v) = (((u.toNat : Nat) : Int) == ((v.toNat : Nat) : Int)) := by
  rw [Bool.eq_iff_iff, beq_iff_eq, beq_iff_eq, Int.ofNat_inj]
  exact ⟨fun h => by rw [h], fun h => UInt8.toNat_inj.1 h⟩
theorem byte_at (n : ByteArray) (k : Nat) (h : k < n.size) (c : UInt8) : (n.data.toList[k]? == some c) = (((n[k].toNat : Nat) : Int) == ((c.toNat : Nat) : Int)) := by
  rw [← byte_int, List.getElem?_eq_getElem (by rw [Array.length_toList]; exact h)]
  rfl

theorem match_any (b n : ByteArray) (t : Bool) (w : World) : Calls Try.prog 14 #[pat b t, .string n] w fun e w' => e = .returned (.bool (matchB b t n)) ∧ Grew w w' := by
  unfold matchB
  cases h : (n.toList == b.toList) with
  | true => exact match_eq b n t w h
  | false =>
    cases t with
    | false => exact match_flat b n w h
    | true =>
      cases h2 : (b.toList == [46]) with
      | true => exact match_dot b n w h h2
      | false =>
        by_cases h3 : b.size < n.size
        · rw [decide_eq_true h3, byte_at n b.size h3]
          cases h4 : (((n[b.size].toNat : Nat) : Int) == (((47 : UInt8).toNat : Nat) : Int)) with
          | false => exact match_mid b n w h h2 h3 h4
          | true => exact match_long b n w h h2 h3 h4
        · rw [decide_eq_false h3]
          exact match_short b n w h h2 h3

/-- Where unit starts to look. -/
def startAt (b : ByteArray) : Nat := if (b.toList == [46]) = true then 0 else b.size + 1
/-- What unit answers. -/
def unitB (b n : ByteArray) : ByteArray :=
  if (n.toList == b.toList) = true then n else
    if 0 ≤ Lib.indexByte (n.extract (startAt b) n.size).data.toList 47 then n.extract 0 (startAt b + (Lib.indexByte (n.extract (startAt b) n.size).data.toList 47).toNat) else n

theorem unit_eq (b n : ByteArray) (t : Bool) (w : World) (h : (n.toList == b.toList) = true) : Calls Try.prog 37 #[pat b t, .string n] w fun e w' => e = .returned (.string n) ∧ Grew w w' := by
  unfold pat
  go_enter Try.func37, Try.ntmps37
  go_wp2
  go_ret
  exact ⟨rfl, Grew.alloc _ _⟩
theorem unit_dot_yes (b n : ByteArray) (t : Bool) (w : World) (i : Nat) (hm : n.size ≤ 1048576) (h : (n.toList == b.toList) = false) (h2 : (b.toList == [46]) = true) (hi : Lib.indexByte n.data.toList 47 = (i : Int)) (hi2 : i ≤ n.size) :
    Calls Try.prog 37 #[pat b t, .string n] w fun e w' => e = .returned (.string (n.extract 0 i)) ∧ Grew w w' := by
  have HI : Hid (Lib.indexByte n.data.toList 47 = (i : Int)) := hi
  have e0 : IntKind.i64.wrap (i : Int) = (i : Int) := by rw [IntKind.wrap_i64]; omega
  clear hi
  unfold pat
  go_enter Try.func37, Try.ntmps37
  go_wp2_with (go_at_call 43; refine (indexByte_any _ _).mono ?_; rintro e w' ⟨rfl, hw'⟩; obtain rfl := hw'.symm; rw [HI.out])
  go_ret
  exact ⟨rfl, Grew.alloc _ _⟩
theorem unit_dot_no (b n : ByteArray) (t : Bool) (w : World) (i : Int) (h : (n.toList == b.toList) = false) (h2 : (b.toList == [46]) = true) (hi : Lib.indexByte n.data.toList 47 = i) (hi2 : i < 0) :
    Calls Try.prog 37 #[pat b t, .string n] w fun e w' => e = .returned (.string n) ∧ Grew w w' := by
  have HI : Hid (Lib.indexByte n.data.toList 47 = i) := hi
  clear hi
  unfold pat
  go_enter Try.func37, Try.ntmps37
  go_wp2_with (go_at_call 43; refine (indexByte_any _ _).mono ?_; rintro e w' ⟨rfl, hw'⟩; obtain rfl := hw'.symm; rw [HI.out])
  go_ret
  exact ⟨rfl, Grew.alloc _ _⟩
theorem unit_sub_yes (b n : ByteArray) (t : Bool) (w : World) (i : Nat) (hm : n.size ≤ 1048576) (hb : b.size + 1 ≤ n.size) (h : (n.toList == b.toList) = false) (h2 : (b.toList == [46]) = false) (hi : Lib.indexByte (n.extract (b.size + 1) n.size).data.toList 47 = (i : Int)) (hi2 : b.size + 1 + i ≤ n.size) :
    Calls Try.prog 37 #[pat b t, .string n] w fun e w' => e = .returned (.string (n.extract 0 (b.size + 1 + i))) ∧ Grew w w' := by
  have HI : Hid (Lib.indexByte (n.extract (b.size + 1) n.size).data.toList 47 = (i : Int)) := hi
  have e0 : IntKind.i64.wrap ((b.size : Int) + 1) = (b.size : Int) + 1 := by rw [IntKind.wrap_i64]; omega
  have e1 : IntKind.i64.wrap ((b.size : Int) + 1 + i) = (b.size : Int) + 1 + i := by rw [IntKind.wrap_i64]; omega
  have e2 : ((b.size : Int) + 1).toNat = b.size + 1 := by omega
  have e3 : ((b.size : Int) + 1 + i).toNat = b.size + 1 + i := by omega
  have e4 : (b.size : Int) + 1 ≤ (n.size : Int) := by omega
  have e5 : (b.size : Int) + 1 + i ≤ (n.size : Int) := by omega
  have e6 : (0 : Int) ≤ (b.size : Int) + 1 + i := by omega
  clear hi
  unfold pat
  go_enter Try.func37, Try.ntmps37
  go_wp2_with (go_at_call 43; refine (indexByte_any _ _).mono ?_; rintro e w' ⟨rfl, hw'⟩; obtain rfl := hw'.symm; rw [HI.out])
  go_ret
  exact ⟨rfl, Grew.alloc _ _⟩
theorem unit_sub_no (b n : ByteArray) (t : Bool) (w : World) (i : Int) (hm : n.size ≤ 1048576) (hb : b.size + 1 ≤ n.size) (h : (n.toList == b.toList) = false) (h2 : (b.toList == [46]) = false) (hi : Lib.indexByte (n.extract (b.size + 1) n.size).data.toList 47 = i) (hi2 : i < 0) :
    Calls Try.prog 37 #[pat b t, .string n] w fun e w' => e = .returned (.string n) ∧ Grew w w' := by
  have HI : Hid (Lib.indexByte (n.extract (b.size + 1) n.size).data.toList 47 = i) := hi
  have e0 : IntKind.i64.wrap ((b.size : Int) + 1) = (b.size : Int) + 1 := by rw [IntKind.wrap_i64]; omega
  have e2 : ((b.size : Int) + 1).toNat = b.size + 1 := by omega
  have e4 : (b.size : Int) + 1 ≤ (n.size : Int) := by omega
  clear hi
  unfold pat
  go_enter Try.func37, Try.ntmps37
  go_wp2_with (go_at_call 43; refine (indexByte_any _ _).mono ?_; rintro e w' ⟨rfl, hw'⟩; obtain rfl := hw'.symm; rw [HI.out])
  go_ret
  exact ⟨rfl, Grew.alloc _ _⟩
end Go.Proofs.Qxb6600890a
