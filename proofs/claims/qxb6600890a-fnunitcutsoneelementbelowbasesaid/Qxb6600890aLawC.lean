/-
  SEAT b6600890a: THE WALK OF FnUnitCutsOneElementBelowBase.
-/
import Derived.Test.Qxb6600890aModel
import Derived.Test.Qxb6600890aLawU
namespace Go.Proofs.Qxb6600890a
open Go.RowKit

theorem zz18_yes (b n : ByteArray) (t : Bool) (w : World) (h : b.size + n.size ≤ 1048576) : Calls Try.prog 18 #[.string b, .bool t, .string n] w fun e w' => e = .returned (.bool true) ∧ w' = w := by
  go_enter Try.func18, Try.ntmps18
  go_wp2
  go_ret
  exact ⟨rfl, rfl⟩
theorem zz18_no (b n : ByteArray) (t : Bool) (w : World) (hb : b.size ≤ maxLen) (hn : n.size ≤ maxLen) (h : ¬ b.size + n.size ≤ 1048576) : Calls Try.prog 18 #[.string b, .bool t, .string n] w fun e w' => e = .returned (.bool false) ∧ w' = w := by
  unfold maxLen at hb hn
  by_cases h1 : b.size ≤ 1048576
  · by_cases h2 : n.size ≤ 1048576
    · go_enter Try.func18, Try.ntmps18
      go_wp2
      go_ret
      exact ⟨rfl, rfl⟩
    · go_enter Try.func18, Try.ntmps18
      go_wp2
      go_ret
      exact ⟨rfl, rfl⟩
  · go_enter Try.func18, Try.ntmps18
    go_wp2
    go_ret
    exact ⟨rfl, rfl⟩

theorem lawC_no0 (b n : ByteArray) (t : Bool) (w : World) (hb : b.size ≤ maxLen) (hn : n.size ≤ maxLen) (h : ¬ b.size + n.size ≤ 1048576) : Calls Try.prog 6 #[.string b, .bool t, .string n] w fun e w' => e = .returned (.bool true) ∧ Grew w w' := by
  go_enter Try.func6, Try.ntmps6
  go_wp2_with (go_at_call 18; refine (zz18_no _ _ _ _ hb hn h).mono ?_; rintro e w' ⟨rfl, hw'⟩; obtain rfl := hw'.symm)
  go_ret
  exact ⟨rfl, Grew.refl _⟩
theorem lawC_no1 (b n : ByteArray) (t : Bool) (w : World) (h : b.size + n.size ≤ 1048576) (h1 : ¬ (b.size ≤ 65536 ∧ n.size ≤ 65536)) : Calls Try.prog 6 #[.string b, .bool t, .string n] w fun e w' => e = .returned (.bool true) ∧ Grew w w' := by
  by_cases h2 : b.size ≤ 65536
  · have h3 : ¬ n.size ≤ 65536 := fun h => h1 ⟨h2, h⟩
    have d : decide ((65536 : Int) < (b.size : Int)) = false := decide_eq_false (by omega)
    have d2 : decide ((65536 : Int) < (n.size : Int)) = true := decide_eq_true (by omega)
    clear h1
    go_enter Try.func6, Try.ntmps6
    go_wp2_with (go_at_call 18; refine (zz18_yes _ _ _ _ h).mono ?_; rintro e w' ⟨rfl, hw'⟩; obtain rfl := hw'.symm)
    go_ret
    exact ⟨rfl, Grew.refl _⟩
  · have d : decide ((65536 : Int) < (b.size : Int)) = true := decide_eq_true (by omega)
    clear h1
    go_enter Try.func6, Try.ntmps6
    go_wp2_with (go_at_call 18; refine (zz18_yes _ _ _ _ h).mono ?_; rintro e w' ⟨rfl, hw'⟩; obtain rfl := hw'.symm)
    go_ret
    exact ⟨rfl, Grew.refl _⟩

/-- The model answers what unit answers, at every name that the pattern matches. -/
theorem model_any (b n : ByteArray) (t : Bool) (w : World) (hM : matchB b t n = true) (hb : b.size ≤ 1048576) (hm : n.size ≤ 1048576) :
    Calls Try.prog 20 #[.string b, .string n] w fun e w' => e = .returned (.string (unitB b n)) ∧ w' = w := by
  have hst := match_start b n t hM
  cases hne : (n.toList == b.toList) with
  | true => unfold unitB; rw [if_pos hne]; exact model_eq b n w hne
  | false =>
    rw [hne] at hst
    have hS : startAt b ≤ n.size := by simpa using hst
    have hor := (match_split b n t hM hne).2
    have hcs := unit_cases b n hS hne
    obtain ⟨K, hK, hun, hno, hat⟩ : ∃ K, K ≤ n.size ∧ unitB b n = (if K < n.size then n.extract 0 K else n) ∧ (∀ j, startAt b ≤ j → j < K → n.data.toList[j]? ≠ some 47) ∧ (K < n.size → startAt b ≤ K ∧ n.data.toList[K]? = some 47) := by
      rcases hcs with ⟨h1, _, h2⟩ | ⟨i, h1, _, h2, h3, h4⟩
      · exact ⟨n.size, Nat.le_refl _, by rw [if_neg (Nat.lt_irrefl _)]; exact h1, fun j hj _ => h2 j hj, fun h => absurd h (Nat.lt_irrefl _)⟩
      · exact ⟨startAt b + i, by omega, by rw [if_pos h2]; exact h1, h4, fun _ => ⟨by omega, h3⟩⟩
    rw [hun]
    rcases hor with h | ⟨h, g1, g2, g3⟩
    · have e0 : startAt b = 0 := by unfold startAt; rw [if_pos h]
      rw [e0] at hno hat
      refine model_dot b n w K hne h hm hK (fun j hj he => absurd he (hno j (Nat.zero_le _) hj)) fun hlt => ⟨(hat hlt).2, ?_⟩
      rw [cnt, if_pos (hat hlt).2, cnt_flat n 0 K (Nat.zero_le _) hno]
      rfl
    · have e0 : startAt b = b.size + 1 := by unfold startAt; rw [h]; rfl
      rw [e0] at hno hat
      have hcb : cnt n b.size = cnt b b.size := by
        refine cnt_congr n b b.size fun j hj => ?_
        have := congrArg (fun l : List UInt8 => l[j]?) g3
        simp only [ByteArray.toList_eq] at this
        rw [ext_get _ _ _ _ (by omega), Nat.zero_add] at this
        exact this
      have hc1 : cnt n (b.size + 1) = cnt b b.size + 1 := by rw [cnt, if_pos g2, hcb]
      refine model_sub b n w K hne h hb hm hK (fun j hj he => ?_) fun hlt => ⟨(hat hlt).2, ?_⟩
      · by_cases hj2 : b.size + 1 ≤ j
        · exact absurd he (hno j hj2 hj)
        · have := cnt_mono n (j + 1) (b.size + 1) (by omega)
          omega
      · rw [cnt, if_pos (hat hlt).2, cnt_flat n (b.size + 1) K (hat hlt).1 hno, hc1]

set_option maxHeartbeats 1000000 in
theorem lawC_on (b n : ByteArray) (t : Bool) (w : World) (h1 : b.size ≤ 65536) (h2 : n.size ≤ 65536) : Calls Try.prog 6 #[.string b, .bool t, .string n] w fun e w' => e = .returned (.bool true) ∧ Grew w w' := by
  have d : decide ((65536 : Int) < (b.size : Int)) = false := decide_eq_false (by omega)
  have d2 : decide ((65536 : Int) < (n.size : Int)) = false := decide_eq_false (by omega)
  go_enter Try.func6, Try.ntmps6
  go_wp2_with (go_at_call 18; refine (zz18_yes _ _ _ _ (by omega)).mono ?_; rintro e w' ⟨rfl, hw'⟩; obtain rfl := hw'.symm)
  refine (pattern_any _ _ _).mono ?_
  rintro e w1 ⟨rfl, hg⟩
  have HG : Hid (Grew w w1) := hg
  clear hg
  unfold pat
  go_wp2_with fail
  obtain ⟨w2, hw2, hg2, c0, c1⟩ := pat_block w1 b t
  rw [← hw2]
  have HG2 : Hid (Grew w w2) := HG.out.trans hg2.out
  clear hw2 hg2 HG
  obtain ⟨g, hg⟩ : ∃ g, g = w1.heap.size := ⟨_, rfl⟩
  rw [← hg] at c0 c1 ⊢
  clear hg
  refine (match_any b n t w2).mono ?_
  rintro e w3 ⟨rfl, hg3⟩
  have HG3 : Hid (Grew w w3) := HG2.out.trans hg3
  have c0' := hg3.cell c0
  have c1' := hg3.cell c1
  clear hg3 HG2 c0 c1
  cases hM : matchB b t n with
  | false =>
    go_wp2
    go_ret
    exact ⟨rfl, HG3.out⟩
  | true =>
    have HST : Hid ((n.toList == b.toList) = true ∨ startAt b ≤ n.size) := match_start b n t hM
    have HM : Hid (matchB b t n = true) := hM
    clear hM
    obtain ⟨u, hu⟩ : ∃ u, u = unitB b n := ⟨_, rfl⟩
    have HU : Hid (unitB b n = u) := hu.symm
    have hbs := beq_self u
    clear hu
    go_wp2_with fail
    refine (zzunit_any b n t w3 (by omega) HST.out).mono ?_
    rintro e w4 ⟨rfl, hg4⟩
    rw [HU.out]
    have HG4 : Hid (Grew w w4) := HG3.out.trans hg4
    clear hg4
    go_wp2_with (go_at_call 20; refine (model_any b n t w4 HM.out (by omega) (by omega)).mono ?_; rintro e w' ⟨rfl, hw'⟩; obtain rfl := hw'.symm; rw [HU.out])
    go_ret
    exact ⟨rfl, HG4.out⟩

theorem lawC_any (b n : ByteArray) (t : Bool) (w : World) (hb : b.size ≤ maxLen) (hn : n.size ≤ maxLen) : Calls Try.prog 6 #[.string b, .bool t, .string n] w fun e w' => e = .returned (.bool true) ∧ Below w.heap.size w w' := by
  by_cases h : b.size + n.size ≤ 1048576
  · by_cases h1 : b.size ≤ 65536 ∧ n.size ≤ 65536
    · exact lawC_on b n t w h1.1 h1.2
    · exact lawC_no1 b n t w h h1
  · exact lawC_no0 b n t w hb hn h
end Go.Proofs.Qxb6600890a
