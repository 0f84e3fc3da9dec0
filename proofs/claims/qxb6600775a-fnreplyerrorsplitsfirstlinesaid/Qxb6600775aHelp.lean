/-
  SEAT b6600775a: the law's own helpers.
-/
import Derived.Test.Qxb6600775aLib
import Derived.Test.Qxb6600775aOwn
import Derived.Deep.LoopGhost
namespace Go.Proofs.Qxb6600775a
open Go.RowKit

theorem info9 : (Try.prog.info? 9).map (fun i => (i.zero, i.size, i.bytes)) = some (some (.string ⟨#[]⟩), 1, 16) := by kernel_rfl

/-- A slice of strings: empty, or a block's row with its first cells. -/
def Src (w : World) (ao : Option Addr) (m : Nat) (ss : List ByteArray) : Prop :=
  ss.length = m ∧ (m = 0 ∨ ∃ b off, ao = some ⟨b, off, none⟩ ∧ b < w.heap.size ∧ ∀ j, j < m → w.cell? ⟨b, off + j, none⟩ = some (.string (ss.getD j ByteArray.empty)))
theorem Src.len {w : World} {ao : Option Addr} {m : Nat} {ss : List ByteArray} (h : Src w ao m ss) : ss.length = m := h.1

/-- The bytes of the first k strings. -/
def sumL (ss : List ByteArray) : Nat → Nat
  | 0 => 0
  | k + 1 => sumL ss k + (ss.getD k ByteArray.empty).size
theorem sumL_mono (ss : List ByteArray) (j k : Nat) (h : j ≤ k) : sumL ss j ≤ sumL ss k := by
  induction k with
  | zero => obtain rfl : j = 0 := by omega
            exact Nat.le_refl _
  | succ k ih =>
    by_cases hj : j = k + 1
    · subst hj; exact Nat.le_refl _
    · have := ih (by omega); simp only [sumL]; omega

theorem ret_bool {a b : Bool} (h : a = b) : Ending.returned (.bool a) = .returned (.bool b) := by rw [h]
theorem ret_int {k : IntKind} {a b : Int} (h : a = b) : Ending.returned (.int k a) = .returned (.int k b) := by rw [h]

set_option maxHeartbeats 400000 in
/-- The bound on the total length. -/
theorem zz_any (ao : Option Addr) (m c : Nat) (ss : List ByteArray) (w : World) (hm : m ≤ maxLen) (hs : Src w ao m ss) (hz : ∀ s ∈ ss, s.size ≤ maxLen) :
    Calls Try.prog 4 #[.slice ao m c] w fun e w' => e = .returned (.bool (decide (m + sumL ss m ≤ 1048576))) ∧ w' = w := by
  unfold maxLen at hm
  obtain ⟨R, hR⟩ : ∃ R, R = decide (m + sumL ss m ≤ 1048576) := ⟨_, rfl⟩
  rw [← hR]
  have HR : Hid (R = decide (m + sumL ss m ≤ 1048576)) := hR
  have HS : Hid (Src w ao m ss) := hs
  have HZ : Hid (∀ s ∈ ss, s.size ≤ maxLen) := hz
  have HL : Hid (ss.length = m) := hs.len
  clear hR hs hz
  by_cases h0 : m ≤ 1048576
  · go_enter Try.func4, Try.ntmps4
    go_wp2
    go_loopg [3, 4] m (fun gk t i wr => ∃ k T : Nat, Hid (gk = m - k) ∧ k ≤ m ∧ i = .int .i64 k ∧ t = .int .i64 T ∧ T ≤ 1048576 ∧ Hid (T = m + sumL ss k) ∧ wr = w)
    case atStart => exact ⟨0, m, rfl, Nat.zero_le _, rfl, rfl, h0, rfl, rfl⟩
    case round =>
      obtain ⟨k, T, HG, hk, rfl, rfl, hT, HT, hwr⟩ := hrel
      obtain rfl := hwr.symm
      by_cases hlt : k < m
      · obtain ⟨_, hor⟩ := HS.out
        rcases hor with h00 | ⟨b, off, hb0, hb, hc⟩
        · omega
        · subst hb0
          have hcell := hc k hlt
          obtain ⟨s, hsd⟩ : ∃ s, s = ss.getD k ByteArray.empty := ⟨_, rfl⟩
          rw [← hsd] at hcell
          have hsz : s.size ≤ 9223372036854775807 := by
            have hkl : k < ss.length := by rw [HL.out]; exact hlt
            have := HZ.out s (by rw [hsd, List.getD, List.getElem?_eq_getElem hkl]; exact List.getElem_mem hkl)
            unfold maxLen at this; omega
          have HSd : Hid (s = ss.getD k ByteArray.empty) := hsd
          have HM : Hid (sumL ss (k + 1) ≤ sumL ss m ∧ sumL ss (k + 1) = sumL ss k + s.size) := ⟨sumL_mono ss _ _ hlt, by rw [sumL, ← hsd]⟩
          clear hc hb hsd
          by_cases h1 : s.size ≤ 1048576
          · by_cases h2 : T + s.size ≤ 1048576
            · go_wp2
              go_roundg (m - (k + 1))
              case measure => have := HG.out; omega
              case rel => exact ⟨k + 1, T + s.size, rfl, by omega, by go_num, by go_num, h2, by show _ = _; rw [HM.out.2, HT.out]; omega, rfl⟩
            · go_wp2
              go_ret
              exact ⟨ret_bool (by rw [HR.out, eq_comm, decide_eq_false_iff_not]; have := HM.out; have := HT.out; omega), rfl⟩
          · go_wp2
            go_ret
            exact ⟨ret_bool (by rw [HR.out, eq_comm, decide_eq_false_iff_not]; have := HM.out; have := HT.out; omega), rfl⟩
      · obtain rfl : k = m := by omega
        go_wp2
        go_ret
        exact ⟨ret_bool (by rw [HR.out, eq_comm, decide_eq_true_iff]; have := HT.out; omega), rfl⟩
  · go_enter Try.func4, Try.ntmps4
    go_wp2
    go_ret
    exact ⟨ret_bool (by rw [HR.out, eq_comm, decide_eq_false_iff_not]; omega), rfl⟩

set_option maxHeartbeats 400000 in
theorem lines_any (ao : Option Addr) (m c : Nat) (ss : List ByteArray) (w : World) (hm : m ≤ 65536) (hs : Src w ao m ss) (hb : m + sumL ss m ≤ 1048576) :
    Calls Try.prog 5 #[.slice ao m c] w fun e w' => e = .returned (.int .i64 ((16 * m + sumL ss m : Nat) : Int)) ∧ w' = w := by
  obtain ⟨R, hR⟩ : ∃ R, R = 16 * m + sumL ss m := ⟨_, rfl⟩
  rw [← hR]
  have HR : Hid (R = 16 * m + sumL ss m) := hR
  have HS : Hid (Src w ao m ss) := hs
  have HBd : Hid (m + sumL ss m ≤ 1048576) := hb
  clear hR hs hb
  go_enter Try.func5, Try.ntmps5
  go_wp2
  go_loopg [3, 4] m (fun gk t i wr => ∃ k T : Nat, Hid (gk = m - k) ∧ k ≤ m ∧ i = .int .i64 k ∧ t = .int .i64 T ∧ T ≤ 2097152 ∧ Hid (T = 16 * m + sumL ss k) ∧ wr = w)
  case atStart => exact ⟨0, 16 * m, rfl, Nat.zero_le _, rfl, by go_num, by omega, rfl, rfl⟩
  case round =>
    obtain ⟨k, T, HG, hk, rfl, rfl, hT, HT, hwr⟩ := hrel
    obtain rfl := hwr.symm
    by_cases hlt : k < m
    · obtain ⟨_, hor⟩ := HS.out
      rcases hor with h00 | ⟨b, off, hb0, hb, hc⟩
      · omega
      · subst hb0
        have hcell := hc k hlt
        obtain ⟨s, hsd⟩ : ∃ s, s = ss.getD k ByteArray.empty := ⟨_, rfl⟩
        rw [← hsd] at hcell
        have HM : Hid (sumL ss (k + 1) ≤ sumL ss m ∧ sumL ss (k + 1) = sumL ss k + s.size) := ⟨sumL_mono ss _ _ hlt, by rw [sumL, ← hsd]⟩
        have hT2 : T + s.size ≤ 2097152 := by have := HM.out; have := HT.out; have := HBd.out; omega
        clear hc hb hsd
        go_wp2
        go_roundg (m - (k + 1))
        case measure => have := HG.out; omega
        case rel => exact ⟨k + 1, T + s.size, rfl, by omega, by go_num, by go_num, hT2, by show _ = _; rw [HM.out.2, HT.out]; omega, rfl⟩
    · obtain rfl : k = m := by omega
      go_wp2
      go_ret
      exact ⟨ret_int (by rw [HR.out, HT.out]), rfl⟩
end Go.Proofs.Qxb6600775a
