/-
  SEAT b6600347a: THE WALK OF FnEncodeReadWordRoundTrip.
-/
import Derived.Test.Qxb6600347aOutPlain
import Derived.Deep.QuietTactic
import Derived.BigQuiet
namespace Go.Proofs.Qxb6600347a
open Go.RowKit

theorem bytes17_yes (a : Option Addr) (l c : Nat) (w : World) (h : l ≤ 1048576) : Calls Try.prog 17 #[.slice a l c] w fun e w' => e = .returned (.bool true) ∧ w' = w := by
  go_enter Try.func17, Try.ntmps17
  go_wp2
  go_ret
  exact ⟨rfl, rfl⟩
theorem bytes17_no (a : Option Addr) (l c : Nat) (w : World) (h : ¬ l ≤ 1048576) : Calls Try.prog 17 #[.slice a l c] w fun e w' => e = .returned (.bool false) ∧ w' = w := by
  go_enter Try.func17, Try.ntmps17
  go_wp2
  all_goals (go_ret; exact ⟨rfl, rfl⟩)

/-- Early ways out. -/
theorem lawB_no0 (a : Option Addr) (l c : Nat) (w : World) (h : ¬ l ≤ 1048576) : Calls Try.prog 7 #[.slice a l c] w fun e w' => e = .returned (.bool true) ∧ Below w.heap.size w w' := by
  go_enter Try.func7, Try.ntmps7
  go_wp2_with (go_at_call 17; refine (bytes17_no _ _ _ _ h).mono ?_; rintro e w' ⟨rfl, hw'⟩; obtain rfl := hw'.symm)
  go_ret
  exact ⟨rfl, Below.refl _ _⟩
theorem lawB_no1 (a : Option Addr) (l c : Nat) (w : World) (h : l ≤ 1048576) (h2 : ¬ l % 2 = 0) : Calls Try.prog 7 #[.slice a l c] w fun e w' => e = .returned (.bool true) ∧ Below w.heap.size w w' := by
  have e : (((l : Int) % 2) != 0) = true := by simp; omega
  go_enter Try.func7, Try.ntmps7
  go_wp2_with (go_at_call 17; refine (bytes17_yes _ _ _ _ h).mono ?_; rintro e w' ⟨rfl, hw'⟩; obtain rfl := hw'.symm)
  go_ret
  exact ⟨rfl, Below.refl _ _⟩
/-- Nothing to write. -/
theorem lawB_empty_nil (w : World) : Calls Try.prog 7 #[.slice none 0 0] w fun e w' => e = .returned (.bool true) ∧ Below w.heap.size w w' := by
  go_enter Try.func7, Try.ntmps7
  go_wp2_with (first | (go_at_call 17; refine (bytes17_yes _ _ _ _ (by omega)).mono ?_; rintro e w' ⟨rfl, hw'⟩; obtain rfl := hw'.symm) | (go_at_call 14; refine (clone_nil _).mono ?_; rintro e w' ⟨rfl, hw'⟩; obtain rfl := hw'.symm))
  refine (encode_none none 0 w).mono ?_
  rintro e w1 ⟨rfl, hB⟩
  have HB : Hid (Below w.heap.size w w1) := hB
  clear hB
  go_wp2
  go_ret
  exact ⟨rfl, HB.out⟩
theorem lawB_empty_some (x : Addr) (c : Nat) (w : World) : Calls Try.prog 7 #[.slice (some x) 0 c] w fun e w' => e = .returned (.bool true) ∧ Below w.heap.size w w' := by
  go_enter Try.func7, Try.ntmps7
  go_wp2_with (go_at_call 17; refine (bytes17_yes _ _ _ _ (by omega)).mono ?_; rintro e w' ⟨rfl, hw'⟩; obtain rfl := hw'.symm)
  refine (clone_some x 0 c [] w (by omega) ⟨_, _, rfl, rfl, .inl rfl⟩).mono ?_
  rintro e w1 ⟨rfl, hO⟩
  have HB1 : Hid (Below w.heap.size w w1) := hO.below
  clear hO
  go_wp2_with fail
  refine (encode_none _ 0 w1).mono ?_
  rintro e w2 ⟨rfl, hB⟩
  have HB : Hid (Below w.heap.size w w2) := HB1.out.trans (hB.mono HB1.out.size)
  clear hB HB1
  go_wp2
  go_ret
  exact ⟨rfl, HB.out⟩

set_option maxRecDepth 100000 in
set_option maxHeartbeats 1000000 in
theorem lawB_on (x : Addr) (l c n : Nat) (zs : List Int) (w : World) (h : l ≤ 1048576) (hn : l = 2 * n) (hn0 : 1 ≤ n) (hs : Src w (.slice (some x) l c) l zs) (hb : ∀ j, 0 ≤ zs.getD j 0 ∧ zs.getD j 0 ≤ 255) :
    Calls Try.prog 7 #[.slice (some x) l c] w fun e w' => e = .returned (.bool true) ∧ Below w.heap.size w w' := by
  have e2 : (((l : Int) % 2) != 0) = false := by simp; omega
  have d1 : decide ((1048576 : Int) < (l : Int)) = false := decide_eq_false (by omega)
  have e3 : ((n : Int) == 0) = false := by simp; omega
  have HN : Hid (l = 2 * n) := hn
  have hl1 : l ≤ 2 * n := by omega
  have hl2 : 2 * n ≤ l := by omega
  have HZ : Hid (zs.length = l) := hs.len
  have HS : Hid (Src w (.slice (some x) l c) l zs) := hs
  have HB : Hid (∀ j, 0 ≤ zs.getD j 0 ∧ zs.getD j 0 ≤ 255) := hb
  clear hn hs hb
  go_enter Try.func7, Try.ntmps7
  go_wp2_with (go_at_call 17; refine (bytes17_yes _ _ _ _ h).mono ?_; rintro e w' ⟨rfl, hw'⟩; obtain rfl := hw'.symm)
  refine (clone_some x l c zs w (by omega) HS.out).mono ?_
  rintro e w1 ⟨rfl, hO⟩
  obtain ⟨g, hg⟩ : ∃ g, g = w.heap.size := ⟨_, rfl⟩
  rw [← hg] at hO ⊢
  have HC1 : Hid (∀ j, j < l → w1.cell? ⟨g, j, none⟩ = some (.int .u8 (zs.getD j 0))) := by
    intro j hj
    rw [(hO.row (i := 0) rfl).cell j (by rw [bytesV_length, HZ.out]; exact hj), bytesV_get _ j (by rw [HZ.out]; exact hj)]
  have hgl : g < w1.heap.size := (hO.row (i := 0) rfl).lt
  have HB1 : Hid (Below w.heap.size w w1) := by have := hO.below; rw [hg] at this; exact this
  clear hO hg
  go_wp2_with fail
  rw [HN.out]
  refine (encode_some g n _ zs w1 (by omega) hgl (fun j hj => HC1.out j (by omega)) HB.out).mono ?_
  rintro e w2 ⟨rfl, hB⟩
  have HB2 : Hid (Below w.heap.size w w2) := HB1.out.trans (hB.mono HB1.out.size)
  have HC2 : Hid (∀ j, j < 2 * n → w2.cell? ⟨g, j, none⟩ = some (.int .u8 (zs.getD j 0))) := fun j hj => (hB.cell (p := ⟨g, j, none⟩) hgl).trans (HC1.out j (by omega))
  obtain ⟨S, hS⟩ : ∃ S, S = strOfNums (outL zs n) := ⟨_, rfl⟩
  rw [← hS]
  have hsz : S.size = 6 * n - 1 := by rw [hS, strOfNums_size, outL_len]
  have hsz1 : S.size + 1 ≤ 6 * n := by omega
  have hsz2 : 6 * n ≤ S.size + 1 := by omega
  have HS : Hid (S = strOfNums (outL zs n)) := hS
  have e4 : ((S.size : Int) != 6 * (n : Int) - 1) = false := by simp; omega
  have d2 : decide ((1048576 : Int) < 2 * (n : Int)) = false := decide_eq_false (by omega)
  clear hB hgl HC1 HB1 hS hsz
  go_wp2_with fail
  go_loopg [5] n (fun gk i wr => ∃ k : Nat, Hid (gk = n - k) ∧ k ≤ n ∧ i = .int .i64 k ∧ Hid (∀ j, j < 2 * n → wr.cell? ⟨g, j, none⟩ = some (.int .u8 (zs.getD j 0))) ∧ Hid (Below w.heap.size w wr))
  case atStart => exact ⟨0, rfl, Nat.zero_le _, rfl, HC2, HB2⟩
  case round =>
    obtain ⟨k, HG, hk, rfl, HC, HBl⟩ := hrel
    by_cases hlt : k < n
    · obtain ⟨p, hp⟩ : ∃ p, p = zs.getD (2 * k) 0 := ⟨_, rfl⟩
      obtain ⟨q, hq⟩ : ∃ q, q = zs.getD (2 * k + 1) 0 := ⟨_, rfl⟩
      have p0 : 0 ≤ p := by rw [hp]; exact (HB.out _).1
      have p1 : p ≤ 255 := by rw [hp]; exact (HB.out _).2
      have q0 : 0 ≤ q := by rw [hq]; exact (HB.out _).1
      have q1 : q ≤ 255 := by rw [hq]; exact (HB.out _).2
      have cp : wr.cell? ⟨g, 2 * k, none⟩ = some (.int .u8 p) := by rw [hp]; exact HC.out (2 * k) (by omega)
      have cq : wr.cell? ⟨g, 2 * k + 1, none⟩ = some (.int .u8 q) := by rw [hq]; exact HC.out (2 * k + 1) (by omega)
      have hw := word_read zs n k hlt HB.out _ rfl
      rw [← HS.out] at hw
      have HE1 : Hid ((S.extract (6 * k) (6 * k + 5)).size = 5) := hw.1
      have HE2 : Hid (∀ j, j < 5 → 0 ≤ idx (S.extract (6 * k) (6 * k + 5)) j) := hw.2.1
      have HE3 : Hid (wd (S.extract (6 * k) (6 * k + 5)) 5 = p * 256 + q) := by rw [hp, hq]; exact hw.2.2
      clear hp hq hw
      have k1 : (2 * (k : Int)) < 2 * (n : Int) := by omega
      have k2 : (2 * (k : Int)) + 1 < 2 * (n : Int) := by omega
      have k3 : (0 : Int) ≤ 2 * (k : Int) := by omega
      have k4 : (0 : Int) ≤ 2 * (k : Int) + 1 := by omega
      have k5 : IntKind.i64.wrap (2 * (k : Int)) = 2 * (k : Int) := by rw [IntKind.wrap_i64]; omega
      have k6 : IntKind.i64.wrap (2 * (k : Int) + 1) = 2 * (k : Int) + 1 := by rw [IntKind.wrap_i64]; omega
      have k7 : (2 * (k : Int)).toNat = 2 * k := by omega
      have k8 : (2 * (k : Int) + 1).toNat = 2 * k + 1 := by omega
      have k9 : IntKind.i64.wrap p = p := by rw [IntKind.wrap_i64]; omega
      have k10 : IntKind.i64.wrap q = q := by rw [IntKind.wrap_i64]; omega
      have k11 : IntKind.i64.wrap (p * 256) = p * 256 := by rw [IntKind.wrap_i64]; omega
      have k12 : IntKind.i64.wrap (p * 256 + q) = p * 256 + q := by rw [IntKind.wrap_i64]; omega
      by_cases hk0 : k = 0
      · have hkz : k ≤ 0 := by omega
        have dz : decide ((0 : Int) < (k : Int)) = false := decide_eq_false (by omega)
        clear hk0
        go_wp2_with (go_at_call 10; refine (ZZreadWord_any (S.extract (6 * k) (6 * k + 5)) 5 _ (by rw [HE1.out]; omega) (by rw [HE1.out]; omega) (by omega) HE2.out (fun h => by omega)).mono ?_; rintro e w' ⟨rfl, hw'⟩; obtain rfl := hw'.symm; rw [if_pos rfl, HE3.out, decide_eq_true rfl])
        go_quiet (fail)
        go_wp2
        go_roundg (n - (k + 1))
        case measure => have := HG.out; omega
        case rel => exact ⟨k + 1, rfl, by omega, by go_num, HC.out, ⟨HBl.out.os, HBl.out.tape, HBl.out.output, HBl.out.size, HBl.out.block⟩⟩
      · have hkp : 0 < k := by omega
        clear hk0
        have h45 : (((S[6 * k - 1]'(by omega)).toNat : Nat) : Int) = 45 := by
          rw [← getD_data S (6 * k - 1) (by omega), HS.out, str_at _ (outL_byte zs n), (outL_word zs n k hlt).2 (by omega)]
        go_wp2_with (go_at_call 10; refine (ZZreadWord_any (S.extract (6 * k) (6 * k + 5)) 5 _ (by rw [HE1.out]; omega) (by rw [HE1.out]; omega) (by omega) HE2.out (fun h => by omega)).mono ?_; rintro e w' ⟨rfl, hw'⟩; obtain rfl := hw'.symm; rw [if_pos rfl, HE3.out, decide_eq_true rfl])
        go_quiet (fail)
        go_wp2
        go_roundg (n - (k + 1))
        case measure => have := HG.out; omega
        case rel => exact ⟨k + 1, rfl, by omega, by go_num, HC.out, ⟨HBl.out.os, HBl.out.tape, HBl.out.output, HBl.out.size, HBl.out.block⟩⟩
    · go_wp2
      go_ret
      exact ⟨rfl, HBl.out⟩

/-- THE LAW: whatever the slice. -/
theorem lawB_any (a : Option Addr) (l c : Nat) (zs : List Int) (w : World) (hs : Src w (.slice a l c) l zs) (hnil : a = none → l = 0 ∧ c = 0) (hb : ∀ j, 0 ≤ zs.getD j 0 ∧ zs.getD j 0 ≤ 255) :
    Calls Try.prog 7 #[.slice a l c] w fun e w' => e = .returned (.bool true) ∧ Below w.heap.size w w' := by
  by_cases h : l ≤ 1048576
  · by_cases h2 : l % 2 = 0
    · cases a with
      | none => obtain ⟨rfl, rfl⟩ := hnil rfl; exact lawB_empty_nil w
      | some x =>
        by_cases h0 : l = 0
        · subst h0; exact lawB_empty_some x c w
        · exact lawB_on x l c (l / 2) zs w h (by omega) (by omega) hs hb
    · exact lawB_no1 a l c w h h2
  · exact lawB_no0 a l c w h
end Go.Proofs.Qxb6600347a
