/-
  SEAT b6600890a: THE WALK OF FnUnitIsNamedLeadingPartAndIdempotent.
-/
import Derived.Test.Qxb6600890aPlain
namespace Go.Proofs.Qxb6600890a
open Go.RowKit

theorem zz21_yes (b n : ByteArray) (t : Bool) (w : World) (h : b.size + n.size ≤ 1048576) : Calls Try.prog 21 #[.string b, .bool t, .string n] w fun e w' => e = .returned (.bool true) ∧ w' = w := by
  go_enter Try.func21, Try.ntmps21
  go_wp2
  go_ret
  exact ⟨rfl, rfl⟩
theorem zz21_no (b n : ByteArray) (t : Bool) (w : World) (hb : b.size ≤ maxLen) (hn : n.size ≤ maxLen) (h : ¬ b.size + n.size ≤ 1048576) : Calls Try.prog 21 #[.string b, .bool t, .string n] w fun e w' => e = .returned (.bool false) ∧ w' = w := by
  unfold maxLen at hb hn
  by_cases h1 : b.size ≤ 1048576
  · by_cases h2 : n.size ≤ 1048576
    · go_enter Try.func21, Try.ntmps21
      go_wp2
      go_ret
      exact ⟨rfl, rfl⟩
    · go_enter Try.func21, Try.ntmps21
      go_wp2
      go_ret
      exact ⟨rfl, rfl⟩
  · go_enter Try.func21, Try.ntmps21
    go_wp2
    go_ret
    exact ⟨rfl, rfl⟩

theorem lawU_no0 (b n : ByteArray) (t : Bool) (w : World) (hb : b.size ≤ maxLen) (hn : n.size ≤ maxLen) (h : ¬ b.size + n.size ≤ 1048576) : Calls Try.prog 7 #[.string b, .bool t, .string n] w fun e w' => e = .returned (.bool true) ∧ Grew w w' := by
  go_enter Try.func7, Try.ntmps7
  go_wp2_with (go_at_call 21; refine (zz21_no _ _ _ _ hb hn h).mono ?_; rintro e w' ⟨rfl, hw'⟩; obtain rfl := hw'.symm)
  go_ret
  exact ⟨rfl, Grew.refl _⟩
theorem lawU_no1 (b n : ByteArray) (t : Bool) (w : World) (h : b.size + n.size ≤ 1048576) (h1 : ¬ (b.size ≤ 65536 ∧ n.size ≤ 65536)) : Calls Try.prog 7 #[.string b, .bool t, .string n] w fun e w' => e = .returned (.bool true) ∧ Grew w w' := by
  by_cases h2 : b.size ≤ 65536
  · have h3 : ¬ n.size ≤ 65536 := fun h => h1 ⟨h2, h⟩
    have d : decide ((65536 : Int) < (b.size : Int)) = false := decide_eq_false (by omega)
    have d2 : decide ((65536 : Int) < (n.size : Int)) = true := decide_eq_true (by omega)
    clear h1
    go_enter Try.func7, Try.ntmps7
    go_wp2_with (go_at_call 21; refine (zz21_yes _ _ _ _ h).mono ?_; rintro e w' ⟨rfl, hw'⟩; obtain rfl := hw'.symm)
    go_ret
    exact ⟨rfl, Grew.refl _⟩
  · have d : decide ((65536 : Int) < (b.size : Int)) = true := decide_eq_true (by omega)
    clear h1
    go_enter Try.func7, Try.ntmps7
    go_wp2_with (go_at_call 21; refine (zz21_yes _ _ _ _ h).mono ?_; rintro e w' ⟨rfl, hw'⟩; obtain rfl := hw'.symm)
    go_ret
    exact ⟨rfl, Grew.refl _⟩

/-- A new block that holds a pattern. -/
theorem pat_block (w : World) (b : ByteArray) (t : Bool) : ∃ w', w' = w.alloc (.cells #[.string b, .bool t] 24) ∧ Hid (Grew w w') ∧ w'.cell? ⟨w.heap.size, 0, none⟩ = some (.string b) ∧ w'.cell? ⟨w.heap.size, 1, none⟩ = some (.bool t) := by
  have hh : (w.alloc (.cells #[.string b, .bool t] 24)).heap[w.heap.size]? = some (.cells #[.string b, .bool t] 24 (0, 0)) := heap_alloc_new w _
  refine ⟨_, rfl, Grew.alloc _ _, ?_, ?_⟩
  · rw [cell_of_row _ _ _ _ _ _ hh]; rfl
  · rw [cell_of_row _ _ _ _ _ _ hh]; rfl

set_option maxHeartbeats 1000000 in
theorem lawU_on (b n : ByteArray) (t : Bool) (w : World) (h1 : b.size ≤ 65536) (h2 : n.size ≤ 65536) : Calls Try.prog 7 #[.string b, .bool t, .string n] w fun e w' => e = .returned (.bool true) ∧ Grew w w' := by
  have d : decide ((65536 : Int) < (b.size : Int)) = false := decide_eq_false (by omega)
  have d2 : decide ((65536 : Int) < (n.size : Int)) = false := decide_eq_false (by omega)
  go_enter Try.func7, Try.ntmps7
  go_wp2_with (go_at_call 21; refine (zz21_yes _ _ _ _ (by omega)).mono ?_; rintro e w' ⟨rfl, hw'⟩; obtain rfl := hw'.symm)
  refine (pattern_any _ _ _).mono ?_
  rintro e w1 ⟨rfl, hg⟩
  have HG : Hid (Grew w w1) := hg
  clear hg
  unfold pat
  go_wp2_with fail
  obtain ⟨w2, hw2, hg2, c0, c1⟩ := pat_block w1 b t
  rw [← hw2]
  have HG2 : Hid (Grew w w2) := HG.out.trans hg2.out
  clear hw2 hg2 HG
  obtain ⟨g, hg⟩ : ∃ g, g = w1.heap.size := ⟨_, rfl⟩
  rw [← hg] at c0 c1 ⊢
  clear hg
  refine (match_any b n t w2).mono ?_
  rintro e w3 ⟨rfl, hg3⟩
  have HG3 : Hid (Grew w w3) := HG2.out.trans hg3
  have c0' := hg3.cell c0
  have c1' := hg3.cell c1
  clear hg3 HG2 c0 c1
  cases hM : matchB b t n with
  | false =>
    go_wp2
    go_ret
    exact ⟨rfl, HG3.out⟩
  | true =>
    have hst := match_start b n t hM
    have HL := unit_lead b n t hM
    have HST : Hid ((n.toList == b.toList) = true ∨ startAt b ≤ n.size) := hst
    clear hst hM
    obtain ⟨u, hu⟩ : ∃ u, u = unitB b n := ⟨_, rfl⟩
    rw [← hu] at HL
    have HU : Hid (unitB b n = u) := hu.symm
    clear hu
    go_wp2_with fail
    refine (zzunit_any b n t w3 (by omega) HST.out).mono ?_
    rintro e w4 ⟨rfl, hg4⟩
    rw [HU.out]
    have HG4 : Hid (Grew w w4) := HG3.out.trans hg4
    have d0 := hg4.cell c0'
    have d1 := hg4.cell c1'
    clear hg4 HG3 c0' c1'
    go_wp2_with fail
    refine (match_any b u t w4).mono ?_
    rintro e w5 ⟨rfl, hg5⟩
    have HG5 : Hid (Grew w w5) := HG4.out.trans hg5
    have c0 := hg5.cell d0
    have c1 := hg5.cell d1
    clear hg5 HG4 d0 d1
    rcases HL with ⟨k1, k2, k3, k4⟩ | ⟨k1, k2, k4, k5, k6, k7⟩
    · rw [k1]
      have HS2 : Hid ((u.toList == b.toList) = true ∨ startAt b ≤ u.size) := match_start b u t k1
      have HU2 : Hid (unitB b u = u) := k2
      have hbs := beq_self u
      clear k1 k2
      go_wp2_with fail
      refine (zzunit_any b u t w5 (by omega) HS2.out).mono ?_
      rintro e w6 ⟨rfl, hg6⟩
      have HG6 : Hid (Grew w w6) := HG5.out.trans hg6
      rw [HU2.out]
      clear hg6
      go_wp2
      go_ret
      exact ⟨rfl, HG6.out⟩
    · rw [k1]
      have HS2 : Hid ((u.toList == b.toList) = true ∨ startAt b ≤ u.size) := match_start b u t k1
      have HU2 : Hid (unitB b u = u) := k2
      have hbs := beq_self u
      have k8 : (((n[u.size].toNat : Nat) : Int) == 47) = true := by
        have := byte_at n u.size k5 47
        rw [k7] at this
        exact this.symm
      have k9 : ((n.size : Int) ≤ (u.size : Int)) = False := by simp; omega
      have k10 : (u.size : Int) ≤ (n.size : Int) := by omega
      clear k1 k2 k7
      go_wp2_with fail
      refine (zzunit_any b u t w5 (by omega) HS2.out).mono ?_
      rintro e w6 ⟨rfl, hg6⟩
      have HG6 : Hid (Grew w w6) := HG5.out.trans hg6
      rw [HU2.out]
      clear hg6
      go_wp2
      go_ret
      exact ⟨rfl, HG6.out⟩

theorem lawU_any (b n : ByteArray) (t : Bool) (w : World) (hb : b.size ≤ maxLen) (hn : n.size ≤ maxLen) : Calls Try.prog 7 #[.string b, .bool t, .string n] w fun e w' => e = .returned (.bool true) ∧ Below w.heap.size w w' := by
  by_cases h : b.size + n.size ≤ 1048576
  · by_cases h1 : b.size ≤ 65536 ∧ n.size ≤ 65536
    · exact lawU_on b n t w h1.1 h1.2
    · exact lawU_no1 b n t w h h1
  · exact lawU_no0 b n t w hb hn h
end Go.Proofs.Qxb6600890a
