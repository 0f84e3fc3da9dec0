/-
  SEAT b6600347a: readWord.
-/
import Derived.Test.Qxb6600347aLib
import Derived.WalkSpells
import Derived.Laws.BitsAllLaws
namespace Go.Proofs.Qxb6600347a
open Go.RowKit

def consB : List UInt8 := [98, 100, 102, 103, 104, 106, 107, 108, 109, 110, 112, 114, 115, 116, 118, 122]
def vowB : List UInt8 := [97, 105, 111, 117]
/-- What place j's letter stands for, or -1. -/
def idx (s : ByteArray) (j : Nat) : Int := Lib.indexByte (if j % 2 = 1 then vowB else consB) (s.data.toList.getD j 0)
def wd (s : ByteArray) : Nat → Int
  | 0 => 0
  | j + 1 => wd s j * (if j % 2 = 1 then 4 else 16) + idx s j

theorem byte_back (b : UInt8) : ((b.toNat : Int)).toNat.toUInt8 = b := by simp
theorem getD_data (s : ByteArray) (k : Nat) (h : k < s.size) : s.data.toList.getD k 0 = s[k] := by
  have h' : k < s.data.toList.length := by simpa using h
  rw [List.getD, List.getElem?_eq_getElem h']; rfl
theorem indexByte_lt (l : List UInt8) (c : UInt8) : Lib.indexByte l c < l.length := by
  induction l with
  | nil => simp [Lib.indexByte]
  | cons b l ih => unfold Lib.indexByte; split <;> (try split) <;> simp <;> omega
theorem idx_lt (s : ByteArray) (j : Nat) : idx s j < if j % 2 = 1 then 4 else 16 := by
  unfold idx
  have := indexByte_lt (if j % 2 = 1 then vowB else consB) (s.data.toList.getD j 0)
  split <;> simp_all [vowB, consB]

theorem cons_call (s : ByteArray) (k : Nat) (h : k < s.size) (hk : ¬ k % 2 = 1) (w : World) :
    Calls Try.prog 23 #[.string ⟨#[98, 100, 102, 103, 104, 106, 107, 108, 109, 110, 112, 114, 115, 116, 118, 122]⟩, .int .u8 ((s[k]'h).toNat : Int)] w fun e w' => e = .returned (.int .i64 (idx s k)) ∧ w' = w := by
  have e : idx s k = Lib.indexByte consB ((s[k]'h).toNat : Int).toNat.toUInt8 := by rw [idx, if_neg hk, getD_data s k h, byte_back]
  rw [e]
  exact indexByte_any _ _ w
theorem vow_call (s : ByteArray) (k : Nat) (h : k < s.size) (hk : k % 2 = 1) (w : World) :
    Calls Try.prog 23 #[.string ⟨#[97, 105, 111, 117]⟩, .int .u8 ((s[k]'h).toNat : Int)] w fun e w' => e = .returned (.int .i64 (idx s k)) ∧ w' = w := by
  have e : idx s k = Lib.indexByte vowB ((s[k]'h).toNat : Int).toNat.toUInt8 := by rw [idx, if_pos hk, getD_data s k h, byte_back]
  rw [e]
  exact indexByte_any _ _ w

theorem or16 (y q : Int) (h0 : 0 ≤ y) (h1 : y < 4096) (q0 : 0 ≤ q) (q1 : q < 16) : bits BinOp.or IntKind.u16 (y * 16) q = y * 16 + q := by
  rw [u16_or (y * 16) q (by omega) (by omega) (by omega) (by omega)]
  have e : (y * 16).toNat ||| q.toNat = (y * 16).toNat + q.toNat := nat_join 4 _ _ (by omega) (by omega)
  rw [e]; omega
theorem or4 (y q : Int) (h0 : 0 ≤ y) (h1 : y < 16384) (q0 : 0 ≤ q) (q1 : q < 4) : bits BinOp.or IntKind.u16 (y * 4) q = y * 4 + q := by
  rw [u16_or (y * 4) q (by omega) (by omega) (by omega) (by omega)]
  have e : (y * 4).toNat ||| q.toNat = (y * 4).toNat + q.toNat := nat_join 2 _ _ (by omega) (by omega)
  rw [e]; omega

def top : Nat → Int
  | 0 => 1 | 1 => 16 | 2 => 64 | 3 => 1024 | 4 => 4096 | _ => 65536
theorem wd_bd (s : ByteArray) (J : Nat) (hJ : J ≤ 5) (hok : ∀ j, j < J → 0 ≤ idx s j) : 0 ≤ wd s J ∧ wd s J < top J := by
  have st : ∀ j, j < 5 → (0 ≤ idx s j → 0 ≤ wd s j → wd s j < top j → 0 ≤ wd s (j + 1) ∧ wd s (j + 1) < top (j + 1)) := by
    intro j hj h1 h2 h3
    have hl := idx_lt s j
    have hor : j = 0 ∨ j = 1 ∨ j = 2 ∨ j = 3 ∨ j = 4 := by omega
    rcases hor with rfl | rfl | rfl | rfl | rfl <;> simp [wd, top] at * <;> omega
  induction J with
  | zero => simp [wd, top]
  | succ n ih =>
    obtain ⟨h1, h2⟩ := ih (by omega) (fun j hj => hok j (by omega))
    exact st n (by omega) (hok n (by omega)) h1 h2

theorem ret_u16 {a b : Int} {x y : Bool} (h : a = b) (h' : x = y) : Ending.returned (.tuple #[.int .u16 a, .bool x]) = .returned (.tuple #[.int .u16 b, .bool y]) := by rw [h, h']

set_option maxRecDepth 100000 in
set_option maxHeartbeats 1000000 in
/-- The first J letters are of their tables; the next one, if there is one, is not. -/
theorem readWord_any (s : ByteArray) (J : Nat) (w : World) (hs : 5 ≤ s.size) (hm : s.size ≤ 1099511627776) (hJ : J ≤ 5) (hok : ∀ j, j < J → 0 ≤ idx s j) (hno : J < 5 → idx s J < 0) :
    Calls Try.prog 19 #[.string s] w fun e w' => e = .returned (.tuple #[.int .u16 (if J = 5 then wd s 5 else 0), .bool (decide (J = 5))]) ∧ w' = w := by
  have HOK : Hid (∀ j, j < J → 0 ≤ idx s j) := hok
  have HNO : Hid (J < 5 → idx s J < 0) := hno
  have HW : Hid (∀ k, k ≤ J → 0 ≤ wd s k ∧ wd s k < top k) := fun k hk => wd_bd s k (by omega) (fun j hj => hok j (by omega))
  clear hok hno
  go_enter Try.func19, Try.ntmps19
  go_wp2
  go_loop [4, 9] (fun x i => ∃ k : Nat, k ≤ J ∧ i = .int .i64 k ∧ x = .int .u16 (wd s k)) (fun _ i => 5 - (intOf i).toNat)
  case atStart => exact ⟨0, Nat.zero_le _, rfl, rfl⟩
  case round =>
    obtain ⟨k, hk, rfl, rfl⟩ := hrel
    have hor : k = 0 ∨ k = 1 ∨ k = 2 ∨ k = 3 ∨ k = 4 ∨ k = 5 := by omega
    rcases hor with rfl | rfl | rfl | rfl | rfl | rfl
    · obtain ⟨y, hy⟩ : ∃ y, y = wd s 0 := ⟨_, rfl⟩
      have y0 : 0 ≤ y := by rw [hy]; exact (HW.out 0 hk).1
      have y1 : y < 1 := by rw [hy]; exact (HW.out 0 hk).2
      rw [← hy]
      have HY : Hid (y = wd s 0) := hy
      obtain ⟨q, hq⟩ : ∃ q, q = idx s 0 := ⟨_, rfl⟩
      have q1 : q < 16 := by rw [hq]; exact idx_lt s 0
      have HQ : Hid (idx s 0 = q) := hq.symm
      by_cases hJk : 0 < J
      · have q0 : 0 ≤ q := by rw [hq]; exact HOK.out 0 hJk
        clear hq hy
        go_wp2_with (go_at_call 23; refine (cons_call s 0 (by omega) (by omega) _).mono ?_; rintro e w' ⟨rfl, rfl⟩; rw [HQ.out])
        have er := or16 y q y0 (by omega) q0 q1
        have e1 : wd s 1 = y * 16 + q := by rw [wd, ← HY.out, HQ.out]; rfl
        go_round
        case rel => exact ⟨1, hJk, rfl, by rw [e1, ← er]⟩
        case measure => simp [intOf]
      · have hJe : J = 0 := by omega
        have q0 : q < 0 := by rw [hq]; have := HNO.out (by omega); rwa [hJe] at this
        have HJ : Hid (¬ J = 5) := by rw [hJe]; show ¬ _; omega
        clear hq hy hJe
        go_wp2_with (go_at_call 23; refine (cons_call s 0 (by omega) (by omega) _).mono ?_; rintro e w' ⟨rfl, rfl⟩; rw [HQ.out])
        go_ret2
        exact ⟨ret_u16 (by first | rfl | rw [if_neg HJ.out]) (by have := HJ.out; simp_all), rfl⟩
    · obtain ⟨y, hy⟩ : ∃ y, y = wd s 1 := ⟨_, rfl⟩
      have y0 : 0 ≤ y := by rw [hy]; exact (HW.out 1 hk).1
      have y1 : y < 16 := by rw [hy]; exact (HW.out 1 hk).2
      rw [← hy]
      have HY : Hid (y = wd s 1) := hy
      obtain ⟨q, hq⟩ : ∃ q, q = idx s 1 := ⟨_, rfl⟩
      have q1 : q < 4 := by rw [hq]; exact idx_lt s 1
      have HQ : Hid (idx s 1 = q) := hq.symm
      by_cases hJk : 1 < J
      · have q0 : 0 ≤ q := by rw [hq]; exact HOK.out 1 hJk
        clear hq hy
        go_wp2_with (go_at_call 23; refine (vow_call s 1 (by omega) (by omega) _).mono ?_; rintro e w' ⟨rfl, rfl⟩; rw [HQ.out])
        have er := or4 y q y0 (by omega) q0 q1
        have e1 : wd s 2 = y * 4 + q := by rw [wd, ← HY.out, HQ.out]; rfl
        go_round
        case rel => exact ⟨2, hJk, rfl, by rw [e1, ← er]⟩
        case measure => simp [intOf]
      · have hJe : J = 1 := by omega
        have q0 : q < 0 := by rw [hq]; have := HNO.out (by omega); rwa [hJe] at this
        have HJ : Hid (¬ J = 5) := by rw [hJe]; show ¬ _; omega
        clear hq hy hJe
        go_wp2_with (go_at_call 23; refine (vow_call s 1 (by omega) (by omega) _).mono ?_; rintro e w' ⟨rfl, rfl⟩; rw [HQ.out])
        go_ret2
        exact ⟨ret_u16 (by first | rfl | rw [if_neg HJ.out]) (by have := HJ.out; simp_all), rfl⟩
    · obtain ⟨y, hy⟩ : ∃ y, y = wd s 2 := ⟨_, rfl⟩
      have y0 : 0 ≤ y := by rw [hy]; exact (HW.out 2 hk).1
      have y1 : y < 64 := by rw [hy]; exact (HW.out 2 hk).2
      rw [← hy]
      have HY : Hid (y = wd s 2) := hy
      obtain ⟨q, hq⟩ : ∃ q, q = idx s 2 := ⟨_, rfl⟩
      have q1 : q < 16 := by rw [hq]; exact idx_lt s 2
      have HQ : Hid (idx s 2 = q) := hq.symm
      by_cases hJk : 2 < J
      · have q0 : 0 ≤ q := by rw [hq]; exact HOK.out 2 hJk
        clear hq hy
        go_wp2_with (go_at_call 23; refine (cons_call s 2 (by omega) (by omega) _).mono ?_; rintro e w' ⟨rfl, rfl⟩; rw [HQ.out])
        have er := or16 y q y0 (by omega) q0 q1
        have e1 : wd s 3 = y * 16 + q := by rw [wd, ← HY.out, HQ.out]; rfl
        go_round
        case rel => exact ⟨3, hJk, rfl, by rw [e1, ← er]⟩
        case measure => simp [intOf]
      · have hJe : J = 2 := by omega
        have q0 : q < 0 := by rw [hq]; have := HNO.out (by omega); rwa [hJe] at this
        have HJ : Hid (¬ J = 5) := by rw [hJe]; show ¬ _; omega
        clear hq hy hJe
        go_wp2_with (go_at_call 23; refine (cons_call s 2 (by omega) (by omega) _).mono ?_; rintro e w' ⟨rfl, rfl⟩; rw [HQ.out])
        go_ret2
        exact ⟨ret_u16 (by first | rfl | rw [if_neg HJ.out]) (by have := HJ.out; simp_all), rfl⟩
    · obtain ⟨y, hy⟩ : ∃ y, y = wd s 3 := ⟨_, rfl⟩
      have y0 : 0 ≤ y := by rw [hy]; exact (HW.out 3 hk).1
      have y1 : y < 1024 := by rw [hy]; exact (HW.out 3 hk).2
      rw [← hy]
      have HY : Hid (y = wd s 3) := hy
      obtain ⟨q, hq⟩ : ∃ q, q = idx s 3 := ⟨_, rfl⟩
      have q1 : q < 4 := by rw [hq]; exact idx_lt s 3
      have HQ : Hid (idx s 3 = q) := hq.symm
      by_cases hJk : 3 < J
      · have q0 : 0 ≤ q := by rw [hq]; exact HOK.out 3 hJk
        clear hq hy
        go_wp2_with (go_at_call 23; refine (vow_call s 3 (by omega) (by omega) _).mono ?_; rintro e w' ⟨rfl, rfl⟩; rw [HQ.out])
        have er := or4 y q y0 (by omega) q0 q1
        have e1 : wd s 4 = y * 4 + q := by rw [wd, ← HY.out, HQ.out]; rfl
        go_round
        case rel => exact ⟨4, hJk, rfl, by rw [e1, ← er]⟩
        case measure => simp [intOf]
      · have hJe : J = 3 := by omega
        have q0 : q < 0 := by rw [hq]; have := HNO.out (by omega); rwa [hJe] at this
        have HJ : Hid (¬ J = 5) := by rw [hJe]; show ¬ _; omega
        clear hq hy hJe
        go_wp2_with (go_at_call 23; refine (vow_call s 3 (by omega) (by omega) _).mono ?_; rintro e w' ⟨rfl, rfl⟩; rw [HQ.out])
        go_ret2
        exact ⟨ret_u16 (by first | rfl | rw [if_neg HJ.out]) (by have := HJ.out; simp_all), rfl⟩
    · obtain ⟨y, hy⟩ : ∃ y, y = wd s 4 := ⟨_, rfl⟩
      have y0 : 0 ≤ y := by rw [hy]; exact (HW.out 4 hk).1
      have y1 : y < 4096 := by rw [hy]; exact (HW.out 4 hk).2
      rw [← hy]
      have HY : Hid (y = wd s 4) := hy
      obtain ⟨q, hq⟩ : ∃ q, q = idx s 4 := ⟨_, rfl⟩
      have q1 : q < 16 := by rw [hq]; exact idx_lt s 4
      have HQ : Hid (idx s 4 = q) := hq.symm
      by_cases hJk : 4 < J
      · have q0 : 0 ≤ q := by rw [hq]; exact HOK.out 4 hJk
        clear hq hy
        go_wp2_with (go_at_call 23; refine (cons_call s 4 (by omega) (by omega) _).mono ?_; rintro e w' ⟨rfl, rfl⟩; rw [HQ.out])
        have er := or16 y q y0 (by omega) q0 q1
        have e1 : wd s 5 = y * 16 + q := by rw [wd, ← HY.out, HQ.out]; rfl
        go_round
        case rel => exact ⟨5, hJk, rfl, by rw [e1, ← er]⟩
        case measure => simp [intOf]
      · have hJe : J = 4 := by omega
        have q0 : q < 0 := by rw [hq]; have := HNO.out (by omega); rwa [hJe] at this
        have HJ : Hid (¬ J = 5) := by rw [hJe]; show ¬ _; omega
        clear hq hy hJe
        go_wp2_with (go_at_call 23; refine (cons_call s 4 (by omega) (by omega) _).mono ?_; rintro e w' ⟨rfl, rfl⟩; rw [HQ.out])
        go_ret2
        exact ⟨ret_u16 (by first | rfl | rw [if_neg HJ.out]) (by have := HJ.out; simp_all), rfl⟩
    · have HJ : Hid (J = 5) := by show _ = _; omega
      go_wp2
      go_ret2
      exact ⟨ret_u16 (by first | rfl | rw [if_pos HJ.out]) (by have := HJ.out; simp_all), rfl⟩

theorem ZZreadWord_any (s : ByteArray) (J : Nat) (w : World) (hs : 5 ≤ s.size) (hm : s.size ≤ 1099511627776) (hJ : J ≤ 5) (hok : ∀ j, j < J → 0 ≤ idx s j) (hno : J < 5 → idx s J < 0) :
    Calls Try.prog 10 #[.string s] w fun e w' => e = .returned (.tuple #[.int .u16 (if J = 5 then wd s 5 else 0), .bool (decide (J = 5))]) ∧ w' = w := by
  have HOK : Hid (∀ j, j < J → 0 ≤ idx s j) := hok
  have HNO : Hid (J < 5 → idx s J < 0) := hno
  clear hok hno
  obtain ⟨y, hy⟩ : ∃ y, y = if J = 5 then wd s 5 else 0 := ⟨_, rfl⟩
  obtain ⟨z, hz⟩ : ∃ z, z = decide (J = 5) := ⟨_, rfl⟩
  rw [← hy, ← hz]
  have HY : Hid ((if J = 5 then wd s 5 else 0) = y) := hy.symm
  have HZ : Hid (decide (J = 5) = z) := hz.symm
  clear hy hz
  go_enter Try.func10, Try.ntmps10
  go_wp2_with (go_at_call 19; refine (readWord_any s J _ (by omega) (by omega) (by omega) HOK.out HNO.out).mono ?_; rintro e w' ⟨rfl, rfl⟩; rw [HY.out, HZ.out])
  go_ret2
  exact ⟨rfl, rfl⟩
end Go.Proofs.Qxb6600347a
