/-
  SEAT b6600775a: hasErrPrefix, hasByte, ReplyError.
-/
import Derived.Test.Qxb6600775aHelp
namespace Go.Proofs.Qxb6600775a
open Go.RowKit

theorem hasErr_short (s : ByteArray) (w : World) (h4 : s.size < 4) : Calls Try.prog 8 #[.string s] w fun e w' => e = .returned (.bool false) ∧ w' = w := by
  have d : decide ((4 : Int) ≤ (s.size : Int)) = false := decide_eq_false (by omega)
  go_enter Try.func8, Try.ntmps8
  go_wp2
  go_ret
  exact ⟨rfl, rfl⟩

theorem byte_int (u : UInt8) (v : UInt8) : (u == v) = (((u.toNat : Nat) : Int) == ((v.toNat : Nat) : Int)) := by
  rw [Bool.eq_iff_iff, beq_iff_eq, beq_iff_eq, Int.ofNat_inj]
  exact ⟨fun h => by rw [h], fun h => UInt8.toNat_inj.1 h⟩
theorem errp (s : ByteArray) (h4 : 4 ≤ s.size) : ((s.extract 0 4).toList == [69, 82, 82, 32]) = ((((s[0].toNat : Nat) : Int) == 69) && ((((s[1].toNat : Nat) : Int) == 82) && ((((s[2].toNat : Nat) : Int) == 82) && (((s[3].toNat : Nat) : Int) == 32)))) := by
  have hE : (s.extract 0 4).toList = [s[0], s[1], s[2], s[3]] := by
    rw [ByteArray.toList_eq]
    refine List.ext_getElem (by simp; omega) fun i h1 h2 => ?_
    have h3 : i < 4 := h2
    simp only [ByteArray.data_extract, Array.getElem_toList, Array.getElem_extract, Nat.zero_add]
    obtain rfl | rfl | rfl | rfl : i = 0 ∨ i = 1 ∨ i = 2 ∨ i = 3 := by omega
    all_goals rfl
  rw [hE]
  simp only [List.cons_beq_cons, byte_int, List.nil_beq_eq, List.isEmpty_nil, Bool.and_true]
  rfl

theorem hasErr_long (s : ByteArray) (w : World) (h4 : 4 ≤ s.size) : Calls Try.prog 8 #[.string s] w fun e w' => e = .returned (.bool ((s.extract 0 4).toList == [69, 82, 82, 32])) ∧ w' = w := by
  have d : decide ((4 : Int) ≤ (s.size : Int)) = true := decide_eq_true (by omega)
  rw [errp s h4]
  go_enter Try.func8, Try.ntmps8
  go_wp2
  all_goals
    go_ret
    refine ⟨ret_bool ?_, rfl⟩
    simp [*]

set_option maxHeartbeats 400000 in
/-- No such byte. -/
theorem hasByte_no (s : ByteArray) (w : World) (hm : s.size ≤ 1099511627776) (hno : ∀ j (h : j < s.size), s[j] ≠ 32) :
    Calls Try.prog 9 #[.string s, .int .u8 32] w fun e w' => e = .returned (.bool false) ∧ w' = w := by
  have HN : Hid (∀ j (h : j < s.size), s[j] ≠ 32) := hno
  clear hno
  go_enter Try.func9, Try.ntmps9
  go_wp2
  go_loopg [5] s.size (fun gk i wr => ∃ k : Nat, Hid (gk = s.size - k) ∧ k ≤ s.size ∧ i = .int .i64 k ∧ wr = w)
  case atStart => exact ⟨0, rfl, Nat.zero_le _, rfl, rfl⟩
  case round =>
    obtain ⟨k, HG, hk, rfl, hwr⟩ := hrel
    obtain rfl := hwr.symm
    by_cases hlt : k < s.size
    · have hc : ((((s[k].toNat : Nat) : Int)) == 32) = false := by
        have := byte_int s[k] 32
        have h2 := HN.out k hlt
        rw [← beq_eq_false_iff_ne] at h2
        rw [h2] at this
        exact this.symm
      go_wp2
      go_roundg (s.size - (k + 1))
      case measure => have := HG.out; omega
      case rel => exact ⟨k + 1, rfl, by omega, by go_num, rfl⟩
    · obtain rfl : k = s.size := by omega
      go_wp2
      go_ret
      exact ⟨rfl, rfl⟩

theorem reply_empty (ao : Option Addr) (c : Nat) (w : World) : Calls Try.prog 7 #[.slice ao 0 c] w fun e w' => e = .returned (.pointer none) ∧ w' = w := by
  go_enter Try.func7, Try.ntmps7
  go_wp2
  go_ret
  exact ⟨rfl, rfl⟩
theorem reply_no (b off m c : Nat) (s : ByteArray) (w : World) (hm : 0 < m) (hc : w.cell? ⟨b, off, none⟩ = some (.string s)) (hs : s.size < 4 ∨ ((s.extract 0 4).toList == [69, 82, 82, 32]) = false) :
    Calls Try.prog 7 #[.slice (some ⟨b, off, none⟩) m c] w fun e w' => e = .returned (.pointer none) ∧ w' = w := by
  have d : ((m : Int) == 0) = false := beq_eq_false_iff_ne.2 (by omega)
  have d2 : (0 : Int) < (m : Int) := by omega
  have H : Hid (Calls Try.prog 10 #[.string s, .string ⟨#[69, 82, 82, 32]⟩] w fun e w' => e = .returned (.tuple #[.string s, .bool false]) ∧ w' = w) := by
    by_cases h4 : 4 ≤ s.size
    · exact cutPrefix_no s w h4 (by rcases hs with h | h; omega; exact h)
    · exact cutPrefix_short s w (by omega)
  clear hs
  go_enter Try.func7, Try.ntmps7
  go_wp2_with (go_at_call 10; refine (H.out).mono ?_; rintro e w' ⟨rfl, hw'⟩; obtain rfl := hw'.symm)
  go_ret
  exact ⟨rfl, rfl⟩
/-- What ReplyError gives at an error line: a new block of two strings. -/
theorem reply_yes (b off m c : Nat) (s code text : ByteArray) (w : World) (hm : 0 < m) (hc : w.cell? ⟨b, off, none⟩ = some (.string s)) (h4 : 4 ≤ s.size) (hp : ((s.extract 0 4).toList == [69, 82, 82, 32]) = true)
    (hcut : ∃ f, Calls Try.prog 11 #[.string (s.extract 4 s.size), .string ⟨#[32]⟩] w fun e w' => e = .returned (.tuple #[.string code, .string text, .bool f]) ∧ ∃ n, w' = w.drewN n) :
    Calls Try.prog 7 #[.slice (some ⟨b, off, none⟩) m c] w fun e w' => e = .returned (.pointer (some ⟨w.heap.size, 0, none⟩)) ∧ ∃ n, w' = (w.drewN n).alloc (.cells #[.string code, .string text] 31) := by
  have d : ((m : Int) == 0) = false := beq_eq_false_iff_ne.2 (by omega)
  have d2 : (0 : Int) < (m : Int) := by omega
  obtain ⟨f, hcut⟩ := hcut
  have H : Hid (Calls Try.prog 11 #[.string (s.extract 4 s.size), .string ⟨#[32]⟩] w fun e w' => e = .returned (.tuple #[.string code, .string text, .bool f]) ∧ ∃ n, w' = w.drewN n) := hcut
  clear hcut
  go_enter Try.func7, Try.ntmps7
  go_wp2_with (go_at_call 10; refine (cutPrefix_yes s w h4 hp).mono ?_; rintro e w' ⟨rfl, hw'⟩; obtain rfl := hw'.symm)
  refine (H.out).mono ?_
  rintro e w' ⟨rfl, n, rfl⟩
  go_wp2
  go_ret
  exact ⟨rfl, n, rfl⟩
end Go.Proofs.Qxb6600775a
