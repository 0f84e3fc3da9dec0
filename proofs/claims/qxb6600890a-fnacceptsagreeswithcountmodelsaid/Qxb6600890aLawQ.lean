/-
  SEAT b6600890a: THE WALK OF FnAcceptsAgreesWithCountModel.
-/
import Derived.Test.Qxb6600890aSize
namespace Go.Proofs.Qxb6600890a
open Go.RowKit

/-- How many of the first k patterns match. -/
def cntB (f : Nat → IP) (n : ByteArray) : Nat → Nat
  | 0 => 0
  | k + 1 => cntB f n k + (if ipB (f k) n = true then 1 else 0)
theorem cntB_le (f : Nat → IP) (n : ByteArray) (k : Nat) : cntB f n k ≤ k := by
  induction k with
  | zero => exact Nat.le_refl _
  | succ k ih => rw [cntB]; split <;> omega
theorem cntB_any (f : Nat → IP) (n : ByteArray) (k : Nat) : decide (0 < cntB f n k) = anyB f n k := by
  induction k with
  | zero => rfl
  | succ k ih =>
    rw [cntB, anyB]
    cases h : ipB (f k) n with
    | true => simp
    | false => rw [← ih]; simp

/-- A new block of three cells. -/
theorem imps_block (w : World) (o : Bool) (v1 v2 : Value) : ∃ w', w' = w.alloc (.cells #[.bool o, v1, v2] 36) ∧ Hid (Grew w w') ∧ w'.cell? ⟨w.heap.size, 0, none⟩ = some (.bool o) ∧ w'.cell? ⟨w.heap.size, 1, none⟩ = some v1 ∧ w'.cell? ⟨w.heap.size, 2, none⟩ = some v2 := by
  have hh : (w.alloc (.cells #[.bool o, v1, v2] 36)).heap[w.heap.size]? = some (.cells #[.bool o, v1, v2] 36 (0, 0)) := heap_alloc_new w _
  refine ⟨_, rfl, Grew.alloc _ _, ?_, ?_, ?_⟩
  · rw [cell_of_row _ _ _ _ _ _ hh]; rfl
  · rw [cell_of_row _ _ _ _ _ _ hh]; rfl
  · rw [cell_of_row _ _ _ _ _ _ hh]; rfl

set_option maxHeartbeats 4000000 in
theorem lawQ_on (o : Bool) (a1 a2 : Option Addr) (m1 c1 m2 c2 : Nat) (f1 f2 : Nat → IP) (n : ByteArray) (w : World) (hn : n.size ≤ maxLen) (hm1 : m1 ≤ maxLen) (hm2 : m2 ≤ maxLen) (h1 : Src3 w a1 m1 f1) (h2 : Src3 w a2 m2 f2) (hh1 : Held m1 f1) (hh2 : Held m2 f2) :
    Calls Try.prog 9 #[.bool o, .slice a1 m1 c1, .slice a2 m2 c2, .string n] w fun e w' => e = .returned (.bool true) ∧ Grew w w' := by
  have HZ : Hid (Calls Try.prog 23 #[.bool o, .slice a1 m1 c1, .slice a2 m2 c2, .string n] w fun e w' => BoolOut e ∧ w' = w) := zz23_any o a1 a2 m1 c1 m2 c2 f1 f2 n w hn hm1 hm2 h1 h2 hh1 hh2
  have HA1 : Hid (∀ T : Nat, T ≤ 1048576 → Calls Try.prog 24 #[.int .i64 T, .slice a1 m1 c1] w fun e w' => SumOut m1 e ∧ w' = w) := fun T hT => add_any T a1 m1 c1 f1 w hT hm1 h1 hh1
  have HA2 : Hid (∀ T : Nat, T ≤ 1048576 → Calls Try.prog 24 #[.int .i64 T, .slice a2 m2 c2] w fun e w' => SumOut m2 e ∧ w' = w) := fun T hT => add_any T a2 m2 c2 f2 w hT hm2 h2 hh2
  have H1 : Hid (Src3 w a1 m1 f1) := h1
  have H2 : Hid (Src3 w a2 m2 f2) := h2
  unfold maxLen at hn hm1 hm2
  clear h1 h2 hh1 hh2
  go_enter Try.func9, Try.ntmps9
  go_wp2_with fail
  refine (HZ.out).mono ?_
  rintro e w' ⟨⟨r, rfl⟩, hw'⟩
  obtain rfl := hw'.symm
  clear HZ
  cases r with
  | false =>
    go_wp2
    go_ret
    exact ⟨rfl, Grew.refl _⟩
  | true =>
    by_cases hns : n.size ≤ 1048576
    · go_wp2_with fail
      refine (HA1.out _ hns).mono ?_
      rintro e w' ⟨⟨v1, rfl, hv1, hb1⟩, hw'⟩
      obtain rfl := hw'.symm
      clear HA1
      by_cases hv1' : v1 ≤ 1048576
      · have hs1 : m1 ≤ 65536 := hb1 hv1'
        clear hb1
        go_wp2_with fail
        refine (HA2.out _ hv1').mono ?_
        rintro e w' ⟨⟨v2, rfl, hv2, hb2⟩, hw'⟩
        obtain rfl := hw'.symm
        clear HA2
        by_cases hv2' : v2 ≤ 1048576
        · have hs2 : m2 ≤ 65536 := hb2 hv2'
          clear hb2
          go_wp2_with fail
          refine (pats_any a1 m1 c1 f1 w hs1 H1.out).mono ?_
          rintro e w1 ⟨rfl, hp1, hg1⟩
          have H2' : Hid (Src3 w1 a2 m2 f2) := H2.out.kept hg1
          have HP1 : Hid (Src3 w1 (some ⟨w.heap.size, 0, none⟩) m1 f1 ∧ Grew w w1) := ⟨hp1, hg1⟩
          clear hp1 hg1
          obtain ⟨G1, hG1⟩ : ∃ G, G = w.heap.size := ⟨_, rfl⟩
          rw [← hG1] at HP1 ⊢
          clear hG1
          go_wp2_with fail
          refine (pats_any a2 m2 c2 f2 w1 hs2 H2'.out).mono ?_
          rintro e w2 ⟨rfl, hp2, hg2⟩
          have HP2 : Hid (Src3 w2 (some ⟨G1, 0, none⟩) m1 f1 ∧ Src3 w2 (some ⟨w1.heap.size, 0, none⟩) m2 f2 ∧ Grew w w2) := ⟨HP1.out.1.kept hg2, hp2, HP1.out.2.trans hg2⟩
          clear hp2 hg2 HP1 H2'
          obtain ⟨G2, hG2⟩ : ∃ G, G = w1.heap.size := ⟨_, rfl⟩
          rw [← hG2] at HP2 ⊢
          clear hG2
          go_wp2_with fail
          refine (zzimps_any o _ _ _ _ _ _ w2).mono ?_
          rintro e w3 ⟨rfl, hg3⟩
          have HP3 : Hid (Src3 w3 (some ⟨G1, 0, none⟩) m1 f1 ∧ Src3 w3 (some ⟨G2, 0, none⟩) m2 f2 ∧ Grew w w3) := ⟨HP2.out.1.kept hg3, HP2.out.2.1.kept hg3, HP2.out.2.2.trans hg3⟩
          clear hg3 HP2
          go_wp2_with fail
          obtain ⟨w4, hw4, hg4, d0, d1, d2⟩ := imps_block w3 o (.slice (some ⟨G1, 0, none⟩) m1 m1) (.slice (some ⟨G2, 0, none⟩) m2 m2)
          rw [← hw4]
          obtain ⟨G, hG⟩ : ∃ G, G = w3.heap.size := ⟨_, rfl⟩
          rw [← hG] at d0 d1 d2 ⊢
          have HP4 : Hid (Src3 w4 (some ⟨G1, 0, none⟩) m1 f1 ∧ Src3 w4 (some ⟨G2, 0, none⟩) m2 f2 ∧ Grew w w4 ∧ w4.cell? ⟨G, 0, none⟩ = some (.bool o) ∧ w4.cell? ⟨G, 1, none⟩ = some (.slice (some ⟨G1, 0, none⟩) m1 m1) ∧ w4.cell? ⟨G, 2, none⟩ = some (.slice (some ⟨G2, 0, none⟩) m2 m2)) := ⟨HP3.out.1.kept hg4.out, HP3.out.2.1.kept hg4.out, HP3.out.2.2.trans hg4.out, d0, d1, d2⟩
          clear hG hw4 hg4 d0 d1 d2 HP3
          go_loopg [11, 12] m2 (fun gk c i wr => ∃ k C : Nat, Hid (gk = m2 - k) ∧ k ≤ m2 ∧ i = .int .i64 k ∧ c = .int .i64 C ∧ C ≤ k ∧ Hid (C = cntB f2 n k) ∧ Hid (Grew w4 wr))
          case atStart => exact ⟨0, 0, rfl, Nat.zero_le _, rfl, rfl, Nat.le_refl _, rfl, Grew.refl _⟩
          case round =>
            obtain ⟨k, C, HG, hk, rfl, rfl, hC, HC, HW⟩ := hrel
            by_cases hlt : k < m2
            · rcases H2.out with h0 | ⟨b, off, hb0, hb, hc⟩
              · omega
              · subst hb0
                obtain ⟨hc0, hc1, hc2⟩ := hc k hlt
                have hgw : Grew w wr := HP4.out.2.2.1.trans HW.out
                have e0 := hgw.cell hc0
                have e1 := hgw.cell hc1
                have e2 := hgw.cell hc2
                obtain ⟨x, hx⟩ : ∃ x, x = f2 k := ⟨_, rfl⟩
                have HX : Hid (f2 k = x) := hx.symm
                rw [← hx] at e0 e1 e2
                clear hc hc0 hc1 hc2 hgw hx
                go_wp2_with fail
                refine (ipModel_any x n wr hns).mono ?_
                rintro e w' ⟨rfl, hg'⟩
                have HW' : Hid (Grew w4 w') := HW.out.trans hg'
                clear hg' e0 e1 e2
                cases hB : ipB x n with
                | true =>
                  have HN : Hid (C + 1 = cntB f2 n (k + 1)) := by
                    show C + 1 = _
                    rw [cntB, HX.out, hB, if_pos rfl, HC.out]
                  clear hB
                  go_wp2
                  go_roundg (m2 - (k + 1))
                  case measure => have := HG.out; omega
                  case rel => exact ⟨k + 1, C + 1, rfl, by omega, by go_num, by go_num, by omega, HN, HW'⟩
                | false =>
                  have HN : Hid (C = cntB f2 n (k + 1)) := by
                    show C = _
                    rw [cntB, HX.out, hB, if_neg Bool.false_ne_true, HC.out]
                    rfl
                  clear hB
                  go_wp2
                  go_roundg (m2 - (k + 1))
                  case measure => have := HG.out; omega
                  case rel => exact ⟨k + 1, C, rfl, by omega, by go_num, rfl, by omega, HN, HW'⟩
            · obtain rfl : k = m2 := by omega
              have hC1 : (C : Int) ≤ 65536 := by omega
              have HD : Hid (((C : Int) == 0) = !anyB f2 n k) := by
                have h := cntB_any f2 n k
                rw [← HC.out] at h
                show ((C : Int) == 0) = !anyB f2 n k
                rw [← h, Bool.eq_iff_iff]
                simp only [beq_iff_eq, Bool.not_eq_true', decide_eq_false_iff_not]
                omega
              clear HG hlt HC hC
              go_wp2
              go_loopg [13, 14] m1 (fun gk c i wr => ∃ k C : Nat, Hid (gk = m1 - k) ∧ k ≤ m1 ∧ i = .int .i64 k ∧ c = .int .i64 C ∧ C ≤ k ∧ Hid (C = cntB f1 n k) ∧ Hid (Grew w4 wr))
              case atStart => exact ⟨0, 0, rfl, Nat.zero_le _, rfl, rfl, Nat.le_refl _, rfl, HW⟩
              case round =>
                obtain ⟨j, A, HG2, hj, rfl, rfl, hA, HC2, HW2⟩ := hrel
                by_cases hlt : j < m1
                · rcases H1.out with h0 | ⟨b, off, hb0, hb, hc⟩
                  · omega
                  · subst hb0
                    obtain ⟨hc0, hc1, hc2⟩ := hc j hlt
                    have hgw : Grew w wr := HP4.out.2.2.1.trans HW2.out
                    have e0 := hgw.cell hc0
                    have e1 := hgw.cell hc1
                    have e2 := hgw.cell hc2
                    obtain ⟨x, hx⟩ : ∃ x, x = f1 j := ⟨_, rfl⟩
                    have HX : Hid (f1 j = x) := hx.symm
                    rw [← hx] at e0 e1 e2
                    clear hc hc0 hc1 hc2 hgw hx
                    go_wp2_with fail
                    refine (ipModel_any x n wr hns).mono ?_
                    rintro e w' ⟨rfl, hg'⟩
                    have HW2' : Hid (Grew w4 w') := HW2.out.trans hg'
                    clear hg' e0 e1 e2
                    cases hB : ipB x n with
                    | true =>
                      have HN : Hid (A + 1 = cntB f1 n (j + 1)) := by
                        show A + 1 = _
                        rw [cntB, HX.out, hB, if_pos rfl, HC2.out]
                      clear hB
                      go_wp2
                      go_roundg (m1 - (j + 1))
                      case measure => have := HG2.out; omega
                      case rel => exact ⟨j + 1, A + 1, rfl, by omega, by go_num, by go_num, by omega, HN, HW2'⟩
                    | false =>
                      have HN : Hid (A = cntB f1 n (j + 1)) := by
                        show A = _
                        rw [cntB, HX.out, hB, if_neg Bool.false_ne_true, HC2.out]
                        rfl
                      clear hB
                      go_wp2
                      go_roundg (m1 - (j + 1))
                      case measure => have := HG2.out; omega
                      case rel => exact ⟨j + 1, A, rfl, by omega, by go_num, rfl, by omega, HN, HW2'⟩
                · obtain rfl : j = m1 := by omega
                  have HE : Hid (decide ((0 : Int) < (A : Int)) = anyB f1 n j) := by
                    have h := cntB_any f1 n j
                    rw [← HC2.out] at h
                    show decide ((0 : Int) < (A : Int)) = anyB f1 n j
                    rw [← h, Bool.eq_iff_iff]
                    simp only [decide_eq_true_eq]
                    omega
                  have HE2 : Hid (decide (0 < A) = anyB f1 n j) := by
                    show decide (0 < A) = anyB f1 n j
                    rw [HC2.out]
                    exact cntB_any f1 n j
                  have e0 := HW2.out.cell HP4.out.2.2.2.1
                  have e1 := HW2.out.cell HP4.out.2.2.2.2.1
                  have e2 := HW2.out.cell HP4.out.2.2.2.2.2
                  have HQ : Hid (Calls Try.prog 28 #[.agg #[.bool o, .slice (some ⟨G1, 0, none⟩) j j, .slice (some ⟨G2, 0, none⟩) k k], .string n] wr fun e w' => e = .returned (.bool (!anyB f2 n k && (!o || anyB f1 n j))) ∧ Grew wr w') :=
                    acc_any o _ _ _ _ _ _ f1 f2 n wr hns hs1 hs2 (HP4.out.1.kept HW2.out) (HP4.out.2.1.kept HW2.out)
                  have HGw : Hid (Grew w wr) := HP4.out.2.2.1.trans HW2.out
                  clear HG2 hlt HC2 hA HP4
                  obtain ⟨x, hx⟩ : ∃ x, x = anyB f2 n k := ⟨_, rfl⟩
                  obtain ⟨y, hy⟩ : ∃ y, y = anyB f1 n j := ⟨_, rfl⟩
                  rw [← hx] at HQ HD
                  rw [← hy] at HQ HE HE2
                  clear hx hy
                  have hd := HD.out
                  have he := HE.out
                  have he2 := HE2.out
                  clear HD HE HE2
                  cases x <;> cases y <;> cases o <;> simp only [Bool.not_true, Bool.not_false, Bool.true_and, Bool.false_and, Bool.or_true, Bool.or_false] at HQ hd
                  all_goals
                    go_wp2_with fail
                    refine (HQ.out).mono ?_
                    rintro e w' ⟨rfl, hg'⟩
                    have HG' : Hid (Grew w w') := HGw.out.trans hg'
                    clear hg'
                    go_wp2
                    go_ret
                    exact ⟨rfl, HG'.out⟩
        · go_wp2
          go_ret
          exact ⟨rfl, Grew.refl _⟩
      · go_wp2
        go_ret
        exact ⟨rfl, Grew.refl _⟩
    · go_wp2
      go_ret
      exact ⟨rfl, Grew.refl _⟩
end Go.Proofs.Qxb6600890a
