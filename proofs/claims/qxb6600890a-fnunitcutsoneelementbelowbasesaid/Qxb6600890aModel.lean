/-
  SEAT b6600890a: countSlash, unitModel.
-/
import Derived.Test.Qxb6600890aPlain
import Derived.Deep.LoopGhost
namespace Go.Proofs.Qxb6600890a
open Go.RowKit

/-- How many slashes stand among the first k bytes. -/
def cnt (s : ByteArray) : Nat → Nat
  | 0 => 0
  | k + 1 => cnt s k + (if s.data.toList[k]? = some 47 then 1 else 0)
theorem cnt_le (s : ByteArray) (k : Nat) : cnt s k ≤ k := by
  induction k with
  | zero => exact Nat.le_refl _
  | succ k ih => rw [cnt]; split <;> omega
theorem cnt_mono (s : ByteArray) (j k : Nat) (h : j ≤ k) : cnt s j ≤ cnt s k := by
  induction k with
  | zero => obtain rfl : j = 0 := by omega
            exact Nat.le_refl _
  | succ k ih =>
    by_cases hj : j = k + 1
    · subst hj; exact Nat.le_refl _
    · have := ih (by omega); simp only [cnt]; omega
theorem cnt_congr (s r : ByteArray) (k : Nat) (h : ∀ j, j < k → s.data.toList[j]? = r.data.toList[j]?) : cnt s k = cnt r k := by
  induction k with
  | zero => rfl
  | succ k ih => rw [cnt, cnt, ih (fun j hj => h j (by omega)), h k (by omega)]
theorem cnt_flat (s : ByteArray) (j k : Nat) (h : j ≤ k) (hno : ∀ i, j ≤ i → i < k → s.data.toList[i]? ≠ some 47) : cnt s k = cnt s j := by
  induction k with
  | zero => obtain rfl : j = 0 := by omega
            rfl
  | succ k ih =>
    by_cases hj : j = k + 1
    · subst hj; rfl
    · rw [cnt, ih (by omega) (fun i h1 h2 => hno i h1 (by omega)), if_neg (hno k (by omega) (by omega))]
      omega
theorem cnt_step (s : ByteArray) (k : Nat) (h : k < s.size) (c : Bool) (hc : (((s[k].toNat : Nat) : Int) == 47) = c) : cnt s (k + 1) = cnt s k + (if c = true then 1 else 0) := by
  have hb := byte_at s k h 47
  have hb2 : (s.data.toList[k]? == some 47) = c := hb.trans hc
  rw [cnt]
  cases c with
  | true => rw [if_pos (by simpa using hb2), if_pos rfl]
  | false => rw [if_neg (by simpa using hb2), if_neg (by decide)]

set_option maxHeartbeats 400000 in
theorem count_any (s : ByteArray) (w : World) (hm : s.size ≤ 1048576) : Calls Try.prog 38 #[.string s] w fun e w' => e = .returned (.int .i64 (cnt s s.size : Nat)) ∧ w' = w := by
  go_enter Try.func38, Try.ntmps38
  go_wp2
  go_loopg [3, 4] s.size (fun gk c i wr => ∃ k C : Nat, Hid (gk = s.size - k) ∧ k ≤ s.size ∧ c = .int .i64 C ∧ i = .int .i64 k ∧ Hid (C = cnt s k) ∧ C ≤ 1048576 ∧ wr = w)
  case atStart => exact ⟨0, 0, rfl, Nat.zero_le _, rfl, rfl, rfl, Nat.zero_le _, rfl⟩
  case round =>
    obtain ⟨k, C, HG, hk, rfl, rfl, HC, hC, hwr⟩ := hrel
    obtain rfl := hwr.symm
    by_cases hlt : k < s.size
    · have hC2 : C ≤ k := by rw [HC.out]; exact cnt_le s k
      cases hc : (((s[k].toNat : Nat) : Int) == 47) with
      | true =>
        have HN : Hid (cnt s (k + 1) = C + 1) := by rw [HC.out]; exact cnt_step s k hlt true hc
        go_wp2
        go_roundg (s.size - (k + 1))
        case measure => have := HG.out; omega
        case rel => exact ⟨k + 1, C + 1, rfl, by omega, by go_num, by go_num, HN.out.symm, by omega, rfl⟩
      | false =>
        have HN : Hid (cnt s (k + 1) = C) := by rw [HC.out]; exact cnt_step s k hlt false hc
        go_wp2
        go_roundg (s.size - (k + 1))
        case measure => have := HG.out; omega
        case rel => exact ⟨k + 1, C, rfl, by omega, rfl, by go_num, HN.out.symm, by omega, rfl⟩
    · obtain rfl : k = s.size := by omega
      go_wp2
      go_ret
      exact ⟨ret_int (by rw [HC.out]), rfl⟩

theorem model_eq (b n : ByteArray) (w : World) (h : (n.toList == b.toList) = true) : Calls Try.prog 20 #[.string b, .string n] w fun e w' => e = .returned (.string n) ∧ w' = w := by
  go_enter Try.func20, Try.ntmps20
  go_wp2
  go_ret
  exact ⟨rfl, rfl⟩

set_option maxHeartbeats 1000000 in
/-- Cut at K: the want-th slash; or nowhere. -/
theorem model_dot (b n : ByteArray) (w : World) (K : Nat) (h : (n.toList == b.toList) = false) (h2 : (b.toList == [46]) = true) (hm : n.size ≤ 1048576) (hK : K ≤ n.size)
    (hbef : ∀ j, j < K → n.data.toList[j]? = some 47 → cnt n (j + 1) ≠ 1) (hat : K < n.size → n.data.toList[K]? = some 47 ∧ cnt n (K + 1) = 1) :
    Calls Try.prog 20 #[.string b, .string n] w fun e w' => e = .returned (.string (if K < n.size then n.extract 0 K else n)) ∧ w' = w := by
  have HB : Hid (∀ j, j < K → n.data.toList[j]? = some 47 → cnt n (j + 1) ≠ 1) := hbef
  have HA : Hid (K < n.size → n.data.toList[K]? = some 47 ∧ cnt n (K + 1) = 1) := hat
  clear hbef hat
  obtain ⟨R, hR⟩ : ∃ R, R = (if K < n.size then n.extract 0 K else n) := ⟨_, rfl⟩
  rw [← hR]
  have HR : Hid (R = (if K < n.size then n.extract 0 K else n)) := hR
  clear hR
  go_enter Try.func20, Try.ntmps20
  go_wp2
  go_loopg [6, 7] n.size (fun gk c i wr => ∃ k C : Nat, Hid (gk = n.size - k) ∧ k ≤ K ∧ c = .int .i64 C ∧ i = .int .i64 k ∧ Hid (C = cnt n k) ∧ C ≤ 1048576 ∧ wr = w)
  case atStart => exact ⟨0, 0, rfl, Nat.zero_le _, rfl, rfl, rfl, Nat.zero_le _, rfl⟩
  case round =>
    obtain ⟨k, C, HG, hk, rfl, rfl, HC, hC, hwr⟩ := hrel
    obtain rfl := hwr.symm
    have hC2 : C ≤ k := by rw [HC.out]; exact cnt_le n k
    by_cases hlt : k < K
    · have hkn : k < n.size := by omega
      cases hc : (((n[k].toNat : Nat) : Int) == 47) with
      | true =>
        have hN : cnt n (k + 1) = C + 1 := by rw [HC.out]; exact cnt_step n k hkn true hc
        have hne : (((C : Int) + 1) == 1) = false := by
          have h5 := HB.out k hlt (by have := byte_at n k hkn 47; rw [show (((n[k].toNat : Nat) : Int) == ((47 : UInt8).toNat : Nat)) = true from hc] at this; simpa using this)
          rw [hN] at h5
          rw [beq_eq_false_iff_ne]
          omega
        have HN : Hid (cnt n (k + 1) = C + 1) := hN
        clear hN
        go_wp2
        go_roundg (n.size - (k + 1))
        case measure => have := HG.out; omega
        case rel => exact ⟨k + 1, C + 1, rfl, by omega, by go_num, by go_num, HN.out.symm, by omega, rfl⟩
      | false =>
        have HN : Hid (cnt n (k + 1) = C) := by rw [HC.out]; exact cnt_step n k hkn false hc
        go_wp2
        go_roundg (n.size - (k + 1))
        case measure => have := HG.out; omega
        case rel => exact ⟨k + 1, C, rfl, by omega, rfl, by go_num, HN.out.symm, by omega, rfl⟩
    · obtain rfl : k = K := by omega
      by_cases hend : k < n.size
      · obtain ⟨h6, h7⟩ := HA.out hend
        have hc : (((n[k].toNat : Nat) : Int) == 47) = true := by have := byte_at n k hend 47; rw [h6] at this; exact this.symm
        have hN : cnt n (k + 1) = C + 1 := by rw [HC.out]; exact cnt_step n k hend true hc
        have heq : (((C : Int) + 1) == 1) = true := by rw [beq_iff_eq]; omega
        clear h6 h7 hN
        go_wp2
        go_ret
        exact ⟨ret_str (by rw [HR.out, if_pos hend]), rfl⟩
      · obtain rfl : k = n.size := by omega
        go_wp2
        go_ret
        exact ⟨ret_str (by rw [HR.out, if_neg hend]), rfl⟩

set_option maxHeartbeats 1000000 in
theorem model_sub (b n : ByteArray) (w : World) (K : Nat) (h : (n.toList == b.toList) = false) (h2 : (b.toList == [46]) = false) (hmb : b.size ≤ 1048576) (hm : n.size ≤ 1048576) (hK : K ≤ n.size)
    (hbef : ∀ j, j < K → n.data.toList[j]? = some 47 → cnt n (j + 1) ≠ (cnt b b.size + 2)) (hat : K < n.size → n.data.toList[K]? = some 47 ∧ cnt n (K + 1) = (cnt b b.size + 2)) :
    Calls Try.prog 20 #[.string b, .string n] w fun e w' => e = .returned (.string (if K < n.size then n.extract 0 K else n)) ∧ w' = w := by
  have HB : Hid (∀ j, j < K → n.data.toList[j]? = some 47 → cnt n (j + 1) ≠ (cnt b b.size + 2)) := hbef
  have HA : Hid (K < n.size → n.data.toList[K]? = some 47 ∧ cnt n (K + 1) = (cnt b b.size + 2)) := hat
  clear hbef hat
  obtain ⟨R, hR⟩ : ∃ R, R = (if K < n.size then n.extract 0 K else n) := ⟨_, rfl⟩
  rw [← hR]
  have HR : Hid (R = (if K < n.size then n.extract 0 K else n)) := hR
  clear hR
  obtain ⟨D, hD⟩ : ∃ D, D = cnt b b.size := ⟨_, rfl⟩
  have hD2 : D ≤ 1048576 := by have := cnt_le b b.size; omega
  have HD : Hid (cnt b b.size = D) := hD.symm
  rw [← hD] at HB HA
  clear hD
  go_enter Try.func20, Try.ntmps20
  go_wp2_with (go_at_call 38; refine (count_any _ _ hmb).mono ?_; rintro e w' ⟨rfl, hw'⟩; obtain rfl := hw'.symm; rw [HD.out])
  go_loopg [6, 7] n.size (fun gk c i wr => ∃ k C : Nat, Hid (gk = n.size - k) ∧ k ≤ K ∧ c = .int .i64 C ∧ i = .int .i64 k ∧ Hid (C = cnt n k) ∧ C ≤ 1048576 ∧ wr = w)
  case atStart => exact ⟨0, 0, rfl, Nat.zero_le _, rfl, rfl, rfl, Nat.zero_le _, rfl⟩
  case round =>
    obtain ⟨k, C, HG, hk, rfl, rfl, HC, hC, hwr⟩ := hrel
    obtain rfl := hwr.symm
    have hC2 : C ≤ k := by rw [HC.out]; exact cnt_le n k
    by_cases hlt : k < K
    · have hkn : k < n.size := by omega
      cases hc : (((n[k].toNat : Nat) : Int) == 47) with
      | true =>
        have hN : cnt n (k + 1) = C + 1 := by rw [HC.out]; exact cnt_step n k hkn true hc
        have hne : (((C : Int) + 1) == ((D : Int) + 2)) = false := by
          have h5 := HB.out k hlt (by have := byte_at n k hkn 47; rw [show (((n[k].toNat : Nat) : Int) == ((47 : UInt8).toNat : Nat)) = true from hc] at this; simpa using this)
          rw [hN] at h5
          rw [beq_eq_false_iff_ne]
          omega
        have HN : Hid (cnt n (k + 1) = C + 1) := hN
        clear hN
        go_wp2
        go_roundg (n.size - (k + 1))
        case measure => have := HG.out; omega
        case rel => exact ⟨k + 1, C + 1, rfl, by omega, by go_num, by go_num, HN.out.symm, by omega, rfl⟩
      | false =>
        have HN : Hid (cnt n (k + 1) = C) := by rw [HC.out]; exact cnt_step n k hkn false hc
        go_wp2
        go_roundg (n.size - (k + 1))
        case measure => have := HG.out; omega
        case rel => exact ⟨k + 1, C, rfl, by omega, rfl, by go_num, HN.out.symm, by omega, rfl⟩
    · obtain rfl : k = K := by omega
      by_cases hend : k < n.size
      · obtain ⟨h6, h7⟩ := HA.out hend
        have hc : (((n[k].toNat : Nat) : Int) == 47) = true := by have := byte_at n k hend 47; rw [h6] at this; exact this.symm
        have hN : cnt n (k + 1) = C + 1 := by rw [HC.out]; exact cnt_step n k hend true hc
        have heq : (((C : Int) + 1) == ((D : Int) + 2)) = true := by rw [beq_iff_eq]; omega
        clear h6 h7 hN
        go_wp2
        go_ret
        exact ⟨ret_str (by rw [HR.out, if_pos hend]), rfl⟩
      · obtain rfl : k = n.size := by omega
        go_wp2
        go_ret
        exact ⟨ret_str (by rw [HR.out, if_neg hend]), rfl⟩

end Go.Proofs.Qxb6600890a
