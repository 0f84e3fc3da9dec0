/-
  SEAT b6600347a: THE WALK OF FnReadWordAcceptedReencodes.
-/
import Derived.Test.Qxb6600347aPlain
import Derived.Deep.QuietTactic
import Derived.BigQuiet
import Derived.Deep.LoopGhost
namespace Go.Proofs.Qxb6600347a
open Go.RowKit

theorem bytes9_yes (s : ByteArray) (w : World) (h : s.size ≤ 1048576) : Calls Try.prog 9 #[.string s] w fun e w' => e = .returned (.bool true) ∧ w' = w := by
  go_enter Try.func9, Try.ntmps9
  go_wp2
  go_ret
  exact ⟨rfl, rfl⟩
theorem bytes9_no (s : ByteArray) (w : World) (h : ¬ s.size ≤ 1048576) (hm : s.size ≤ maxLen) : Calls Try.prog 9 #[.string s] w fun e w' => e = .returned (.bool false) ∧ w' = w := by
  unfold maxLen at hm
  go_enter Try.func9, Try.ntmps9
  go_wp2
  all_goals (go_ret; exact ⟨rfl, rfl⟩)

theorem ZZappendWord_nil (x : Int) (w : World) (h0 : 0 ≤ x) (h1 : x ≤ 65535) :
    Calls Try.prog 11 #[.slice none 0 0, .int .u16 x] w fun e w' => ∃ g cap, e = .returned (.slice (some ⟨g, 0, none⟩) 5 cap) ∧ (Rw.mk 5 g cap (bytesV (encW x))).In w' ∧ Below w.heap.size w w' := by
  go_enter Try.func11, Try.ntmps11
  go_wp2_with fail
  refine (appendWord_any (.slice none 0 0) 0 [] x w h0 h1 (World.ownsRow_nil _ _ _ _) (by omega)).mono ?_
  rintro e w' ⟨g, cap, rfl, hR, hG, _⟩
  have HR : Hid ((Rw.mk 5 g cap (bytesV (encW x))).In w') := hR
  have HB : Hid (Below w.heap.size w w') := (Below.refl _ _).grown hG (Nat.le_refl _) (fun k hk => by simp [Value.ownBlock] at hk)
  clear hR hG
  go_wp2
  go_ret
  exact ⟨g, cap, rfl, HR.out, HB.out⟩

/-- Early ways out. -/
theorem lawA_no0 (s : ByteArray) (w : World) (hm : s.size ≤ maxLen) (h : ¬ s.size ≤ 1048576) : Calls Try.prog 3 #[.string s] w fun e w' => e = .returned (.bool true) ∧ Below w.heap.size w w' := by
  go_enter Try.func3, Try.ntmps3
  go_wp2_with (go_at_call 9; refine (bytes9_no _ _ h hm).mono ?_; rintro e w' ⟨rfl, hw'⟩; obtain rfl := hw'.symm)
  go_ret
  exact ⟨rfl, Below.refl _ _⟩
theorem lawA_no1 (s : ByteArray) (w : World) (h : s.size ≤ 1048576) (h5 : s.size < 5) : Calls Try.prog 3 #[.string s] w fun e w' => e = .returned (.bool true) ∧ Below w.heap.size w w' := by
  go_enter Try.func3, Try.ntmps3
  go_wp2_with (go_at_call 9; refine (bytes9_yes _ _ h).mono ?_; rintro e w' ⟨rfl, hw'⟩; obtain rfl := hw'.symm)
  go_ret
  exact ⟨rfl, Below.refl _ _⟩
theorem lawA_no2 (s : ByteArray) (w : World) (h : s.size ≤ 1048576) (h5 : 5 ≤ s.size) (J : Nat) (hJ : J < 5) (hok : ∀ j, j < J → 0 ≤ idx s j) (hno : J < 5 → idx s J < 0) :
    Calls Try.prog 3 #[.string s] w fun e w' => e = .returned (.bool true) ∧ Below w.heap.size w w' := by
  have HOK : Hid (∀ j, j < J → 0 ≤ idx s j) := hok
  have HNO : Hid (J < 5 → idx s J < 0) := hno
  have hne : Hid (¬ J = 5) := by show ¬ _; omega
  clear hok hno
  go_enter Try.func3, Try.ntmps3
  go_wp2_with (first | (go_at_call 9; refine (bytes9_yes _ _ h).mono ?_; rintro e w' ⟨rfl, hw'⟩; obtain rfl := hw'.symm) | (go_at_call 10; refine (ZZreadWord_any s J _ (by omega) (by omega) (by omega) HOK.out HNO.out).mono ?_; rintro e w' ⟨rfl, hw'⟩; obtain rfl := hw'.symm; rw [if_neg hne.out, decide_eq_false hne.out]))
  go_ret
  exact ⟨rfl, Below.refl _ _⟩

set_option maxRecDepth 100000 in
set_option maxHeartbeats 1000000 in
theorem lawA_on (s : ByteArray) (w : World) (h : s.size ≤ 1048576) (h5 : 5 ≤ s.size) (hok : ∀ j, j < 5 → 0 ≤ idx s j) :
    Calls Try.prog 3 #[.string s] w fun e w' => e = .returned (.bool true) ∧ Below w.heap.size w w' := by
  have hb := wd_bd s 5 (by omega) hok
  have hx0 : 0 ≤ wd s 5 := hb.1
  have hx1 : wd s 5 ≤ 65535 := by have := hb.2; simp only [top] at this; omega
  have HE : Hid (∀ j (hj : j < 5), (encW (wd s 5)).getD j 0 = ((s.data.toList.getD j 0).toNat : Int)) := fun j hj => enc_read s hok j hj
  have HOK : Hid (∀ j, j < 5 → 0 ≤ idx s j) := hok
  obtain ⟨x, hx⟩ : ∃ x, x = wd s 5 := ⟨_, rfl⟩
  rw [← hx] at hx0 hx1 HE
  have HX : Hid (wd s 5 = x) := hx.symm
  clear hok hb hx
  go_enter Try.func3, Try.ntmps3
  go_wp2_with (first | (go_at_call 9; refine (bytes9_yes _ _ h).mono ?_; rintro e w' ⟨rfl, hw'⟩; obtain rfl := hw'.symm) | (go_at_call 10; refine (ZZreadWord_any s 5 _ (by omega) (by omega) (by omega) HOK.out (fun h => by omega)).mono ?_; rintro e w' ⟨rfl, hw'⟩; obtain rfl := hw'.symm; rw [if_pos rfl, HX.out, decide_eq_true rfl]))
  refine (ZZappendWord_nil x _ hx0 hx1).mono ?_
  rintro e w1 ⟨g, cap, rfl, hR, hB⟩
  have HR : Hid ((Rw.mk 5 g cap (bytesV (encW x))).In w1) := hR
  have HB : Hid (Below w.heap.size w w1) := hB
  clear hR hB
  go_wp2_with fail
  go_loopg [6] 5 (fun gk i wr => ∃ k : Nat, Hid (gk = 5 - k) ∧ k ≤ 5 ∧ i = .int .i64 k ∧ Hid (∀ j, j < 5 → wr.cell? ⟨g, j, none⟩ = some (.int .u8 ((s.data.toList.getD j 0).toNat : Int))) ∧ Hid (Below w.heap.size w wr))
  case atStart =>
    refine ⟨0, rfl, Nat.zero_le _, rfl, ?_, HB⟩
    intro j hj
    have hl : (encW x).length = 5 := rfl
    rw [HR.out.cell j (by rw [bytesV, List.length_map, hl]; exact hj), ← HE.out j hj]
    simp [bytesV, List.getD, hl, hj]
  case round =>
    obtain ⟨k, HG, hk, rfl, HC, HB⟩ := hrel
    by_cases hlt : k < 5
    · have hc := HC.out k hlt
      rw [getD_data s k (by omega)] at hc
      have hk0 : (0 : Int) ≤ (k : Int) := by omega
      have hk1 : (k : Int) < 5 := by omega
      have hk2 : (k : Int) < (s.size : Int) := by omega
      have hks : k < s.size := by omega
      go_wp2
      go_quiet (fail)
      go_wp2
      go_roundg (5 - (k + 1))
      case measure => have := HG.out; omega
      case rel => exact ⟨k + 1, rfl, by omega, by go_num, HC.out, ⟨HB.out.os, HB.out.tape, HB.out.output, HB.out.size, HB.out.block⟩⟩
    · go_wp2
      go_ret
      exact ⟨rfl, HB.out⟩

/-- THE LAW: whatever the string. -/
theorem lawA_any (s : ByteArray) (hm : s.size ≤ maxLen) (w : World) : Calls Try.prog 3 #[.string s] w fun e w' => e = .returned (.bool true) ∧ Below w.heap.size w w' := by
  by_cases h : s.size ≤ 1048576
  · by_cases h5 : s.size < 5
    · exact lawA_no1 s w h h5
    · obtain ⟨J, hJ, hok, hno⟩ := first_bad s
      by_cases hJ5 : J < 5
      · exact lawA_no2 s w h (by omega) J hJ5 hok hno
      · obtain rfl : J = 5 := by omega
        exact lawA_on s w h (by omega) hok
  · exact lawA_no0 s w hm h
end Go.Proofs.Qxb6600347a
