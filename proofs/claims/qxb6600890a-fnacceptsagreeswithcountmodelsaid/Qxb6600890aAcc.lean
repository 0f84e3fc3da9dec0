/-
  SEAT b6600890a: Accepts; the bounds.
-/
import Derived.Test.Qxb6600890aPats
namespace Go.Proofs.Qxb6600890a
open Go.RowKit

/-- Does any of the first k patterns match? -/
def anyB (f : Nat → IP) (n : ByteArray) : Nat → Bool
  | 0 => false
  | k + 1 => anyB f n k || ipB (f k) n
theorem anyB_mono (f : Nat → IP) (n : ByteArray) (j k : Nat) (h : j ≤ k) (ha : anyB f n j = true) : anyB f n k = true := by
  induction k with
  | zero => obtain rfl : j = 0 := by omega
            exact ha
  | succ k ih =>
    by_cases hj : j = k + 1
    · subst hj; exact ha
    · rw [anyB, ih (by omega), Bool.true_or]

set_option maxHeartbeats 1000000 in
theorem acc_any (o : Bool) (a1 a2 : Option Addr) (m1 c1 m2 c2 : Nat) (f1 f2 : Nat → IP) (n : ByteArray) (w : World) (hm : n.size ≤ 1048576) (hm1 : m1 ≤ 65536) (hm2 : m2 ≤ 65536) (h1 : Src3 w a1 m1 f1) (h2 : Src3 w a2 m2 f2) :
    Calls Try.prog 28 #[.agg #[.bool o, .slice a1 m1 c1, .slice a2 m2 c2], .string n] w fun e w' => e = .returned (.bool (!anyB f2 n m2 && (!o || anyB f1 n m1))) ∧ Grew w w' := by
  obtain ⟨R, hR⟩ : ∃ R, R = (!anyB f2 n m2 && (!o || anyB f1 n m1)) := ⟨_, rfl⟩
  rw [← hR]
  have HR : Hid (R = (!anyB f2 n m2 && (!o || anyB f1 n m1))) := hR
  have H1 : Hid (Src3 w a1 m1 f1) := h1
  have H2 : Hid (Src3 w a2 m2 f2) := h2
  clear hR h1 h2
  have hh : (w.alloc (.cells #[.bool o, .slice a1 m1 c1, .slice a2 m2 c2] 36)).heap[w.heap.size]? = some (.cells #[.bool o, .slice a1 m1 c1, .slice a2 m2 c2] 36 (0, 0)) := heap_alloc_new w _
  have d0 : (w.alloc (.cells #[.bool o, .slice a1 m1 c1, .slice a2 m2 c2] 36)).cell? ⟨w.heap.size, 0, none⟩ = some (.bool o) := by rw [cell_of_row _ _ _ _ _ _ hh]; rfl
  have d1 : (w.alloc (.cells #[.bool o, .slice a1 m1 c1, .slice a2 m2 c2] 36)).cell? ⟨w.heap.size, 1, none⟩ = some (.slice a1 m1 c1) := by rw [cell_of_row _ _ _ _ _ _ hh]; rfl
  have HG0 : Hid (Grew w (w.alloc (.cells #[.bool o, .slice a1 m1 c1, .slice a2 m2 c2] 36))) := Grew.alloc _ _
  clear hh
  have HD : Hid (∃ w0, w0 = w.alloc (.cells #[.bool o, .slice a1 m1 c1, .slice a2 m2 c2] 36) ∧ w0.cell? ⟨w.heap.size, 0, none⟩ = some (.bool o) ∧ w0.cell? ⟨w.heap.size, 1, none⟩ = some (.slice a1 m1 c1) ∧ Grew w w0) := ⟨_, rfl, d0, d1, HG0.out⟩
  clear d0 d1 HG0
  go_enter Try.func28, Try.ntmps28
  go_wp2_with fail
  obtain ⟨w0, hw0, d0, d1, hg0⟩ := HD.out
  rw [← hw0]
  have HD0 : Hid (w0.cell? ⟨w.heap.size, 0, none⟩ = some (.bool o) ∧ w0.cell? ⟨w.heap.size, 1, none⟩ = some (.slice a1 m1 c1) ∧ Grew w w0) := ⟨d0, d1, hg0⟩
  clear hw0 d0 d1 hg0 HD
  obtain ⟨g, hg⟩ : ∃ g, g = w.heap.size := ⟨_, rfl⟩
  rw [← hg] at HD0 ⊢
  clear hg
  go_loopg [12] m2 (fun gk i wr => ∃ k : Nat, Hid (gk = m2 - k) ∧ k ≤ m2 ∧ i = .int .i64 k ∧ Hid (anyB f2 n k = false) ∧ Hid (Grew w0 wr))
  case atStart => exact ⟨0, rfl, Nat.zero_le _, rfl, rfl, Grew.refl _⟩
  case round =>
    obtain ⟨k, HG, hk, rfl, HA, HW⟩ := hrel
    by_cases hlt : k < m2
    · rcases H2.out with h0 | ⟨b, off, hb0, hb, hc⟩
      · omega
      · subst hb0
        obtain ⟨hc0, hc1, hc2⟩ := hc k hlt
        have hgw : Grew w wr := HD0.out.2.2.trans HW.out
        have c0 := hgw.cell hc0
        have c1' := hgw.cell hc1
        have c2' := hgw.cell hc2
        obtain ⟨x, hx⟩ : ∃ x, x = f2 k := ⟨_, rfl⟩
        have HX : Hid (f2 k = x) := hx.symm
        rw [← hx] at c0 c1' c2'
        have HM : Hid (∀ w, Calls Try.prog 33 #[.agg #[.bool x.s, .string x.b, .bool x.t], .string n] w fun e w' => e = .returned (.bool (ipB x n)) ∧ Grew w w') := fun w => impMatch_any x n w hm
        clear hc hc0 hc1 hc2 hgw hx
        go_wp2_with fail
        refine (HM.out _).mono ?_
        rintro e w' ⟨rfl, hg'⟩
        have HW' : Hid (Grew w0 w') := (HW.out.trans (Grew.alloc _ _)).trans hg'
        clear hg' HM c0 c1' c2'
        cases hB : ipB x n with
        | true =>
          have HF : Hid (false = R) := by
            have hx : anyB f2 n (k + 1) = true := by rw [anyB, HX.out, hB, Bool.or_true]
            have hy := anyB_mono f2 n (k + 1) m2 (by omega) hx
            rw [HR.out, hy]
            rfl
          clear hB
          go_wp2
          go_ret
          exact ⟨ret_bool HF.out, HD0.out.2.2.trans HW'.out⟩
        | false =>
          have HA' : Hid (anyB f2 n (k + 1) = false) := by
            show _ = _
            rw [anyB, HA.out, HX.out, hB]
            rfl
          clear hB
          go_wp2
          go_roundg (m2 - (k + 1))
          case measure => have := HG.out; omega
          case rel => exact ⟨k + 1, rfl, by omega, by go_num, HA', HW'⟩
    · obtain rfl : k = m2 := by omega
      have e0 := HW.out.cell HD0.out.1
      have e1 := HW.out.cell HD0.out.2.1
      have HGw : Hid (Grew w wr) := HD0.out.2.2.trans HW.out
      cases o with
      | false =>
        have HT : Hid (true = R) := by rw [HR.out, HA.out]; rfl
        go_wp2
        go_ret
        exact ⟨ret_bool HT.out, HGw.out⟩
      | true =>
        have HR2 : Hid (R = anyB f1 n m1) := by
          show _ = _
          rw [HR.out, HA.out]
          simp
        clear HW HD0 HA H2
        go_wp2
        clear HG hk hlt e0 e1 HR
        go_loopg [26] m1 (fun gk i wr => ∃ k : Nat, Hid (gk = m1 - k) ∧ k ≤ m1 ∧ i = .int .i64 k ∧ Hid (anyB f1 n k = false) ∧ Hid (Grew w wr))
        case atStart => exact ⟨0, rfl, Nat.zero_le _, rfl, rfl, HGw⟩
        case round =>
          obtain ⟨j, HG, hk, rfl, HA, HW⟩ := hrel
          by_cases hlt : j < m1
          · rcases H1.out with h0 | ⟨b, off, hb0, hb, hc⟩
            · omega
            · subst hb0
              obtain ⟨hc0, hc1, hc2⟩ := hc j hlt
              have d0 := HW.out.cell hc0
              have d1 := HW.out.cell hc1
              have d2 := HW.out.cell hc2
              obtain ⟨x, hx⟩ : ∃ x, x = f1 j := ⟨_, rfl⟩
              have HX : Hid (f1 j = x) := hx.symm
              rw [← hx] at d0 d1 d2
              have HM : Hid (∀ w, Calls Try.prog 33 #[.agg #[.bool x.s, .string x.b, .bool x.t], .string n] w fun e w' => e = .returned (.bool (ipB x n)) ∧ Grew w w') := fun w => impMatch_any x n w hm
              clear hc hc0 hc1 hc2 hx
              go_wp2_with fail
              refine (HM.out _).mono ?_
              rintro e w' ⟨rfl, hg'⟩
              have HW' : Hid (Grew w w') := (HW.out.trans (Grew.alloc _ _)).trans hg'
              clear hg' HM d0 d1 d2
              cases hB : ipB x n with
              | true =>
                have HF : Hid (true = R) := by
                  have hx : anyB f1 n (j + 1) = true := by rw [anyB, HX.out, hB, Bool.or_true]
                  have hy := anyB_mono f1 n (j + 1) m1 (by omega) hx
                  show true = R
                  rw [HR2.out, hy]
                clear hB
                go_wp2
                go_ret
                exact ⟨ret_bool HF.out, HW'.out⟩
              | false =>
                have HA' : Hid (anyB f1 n (j + 1) = false) := by
                  show _ = _
                  rw [anyB, HA.out, HX.out, hB]
                  rfl
                clear hB
                go_wp2
                go_roundg (m1 - (j + 1))
                case measure => have := HG.out; omega
                case rel => exact ⟨j + 1, rfl, by omega, by go_num, HA', HW'⟩
          · obtain rfl : j = m1 := by omega
            have HF : Hid (false = R) := by show false = R; rw [HR2.out, HA.out]
            go_wp2
            go_ret
            exact ⟨ret_bool HF.out, HW.out⟩
end Go.Proofs.Qxb6600890a
