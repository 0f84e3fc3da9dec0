/-
  SEAT b6600347a: Encode.
-/
import Derived.Test.Qxb6600347aClone
import Derived.Laws.BytesArg
import Derived.Deep.RegionHeld3
import Derived.Deep.CutRange
namespace Go.Proofs.Qxb6600347a
open Go.RowKit

def pairV (zs : List Int) (j : Nat) : Int := zs.getD (2 * j) 0 * 256 + zs.getD (2 * j + 1) 0
/-- The first j words, joined. -/
def outL (zs : List Int) : Nat → List Int
  | 0 => []
  | j + 1 => (outL zs j ++ if j = 0 then [] else [45]) ++ encW (pairV zs j)

theorem outL_len (zs : List Int) (j : Nat) : (outL zs j).length = 6 * j - 1 := by
  induction j with
  | zero => rfl
  | succ j ih =>
    have e : (encW (pairV zs j)).length = 5 := rfl
    simp only [outL, List.length_append, ih, e]
    split
    · subst_vars; rfl
    · simp; omega

theorem or256 (p q : Int) (p0 : 0 ≤ p) (p1 : p ≤ 255) (q0 : 0 ≤ q) (q1 : q ≤ 255) : bits BinOp.or IntKind.u16 (p * 256) q = p * 256 + q := by
  rw [u16_or (p * 256) q (by omega) (by omega) (by omega) (by omega)]
  have e : (p * 256).toNat ||| q.toNat = (p * 256).toNat + q.toNat := nat_join 8 _ _ (by omega) (by omega)
  rw [e]; omega

set_option maxRecDepth 100000 in
set_option maxHeartbeats 1000000 in
theorem encode_some (g n cap : Nat) (zs : List Int) (w : World) (hn : n ≤ 1048576) (hg : g < w.heap.size) (hc : ∀ j, j < 2 * n → w.cell? ⟨g, j, none⟩ = some (.int .u8 (zs.getD j 0)))
    (hb : ∀ j, 0 ≤ zs.getD j 0 ∧ zs.getD j 0 ≤ 255) :
    Calls Try.prog 15 #[.slice (some ⟨g, 0, none⟩) (2 * n) cap] w fun e w' => e = .returned (.string (strOfNums (outL zs n))) ∧ Below w.heap.size w w' := by
  obtain ⟨i0, hi, hz0, hz1, hz2⟩ := info_parts info5
  obtain ⟨m, hm⟩ : ∃ m, m = 2 * n := ⟨_, rfl⟩
  rw [← hm]
  have hm1 : m ≤ 2 * n := by omega
  have hm2 : 2 * n ≤ m := by omega
  have hme : (m : Int) % 2 = 0 := by omega
  have hme' : (((m : Int) % 2) != 0) = false := by rw [hme]; rfl
  have HC : Hid (∀ j, j < m → w.cell? ⟨g, j, none⟩ = some (.int .u8 (zs.getD j 0))) := by rw [hm]; exact hc
  have HB : Hid (∀ j, 0 ≤ zs.getD j 0 ∧ zs.getD j 0 ≤ 255) := hb
  clear hc hb hm hme
  go_enter Try.func15, Try.ntmps15
  go_wp2_with (at_make; refine wpList_make_own _ rfl _ _ 26 rfl 0 5 i0 (.int .u8 0) 1 Try.underlying26 hi hz0 hz1 _ _ _ (n * 6) rfl rfl (by omega) (by rw [hz2]; omega) (by simp only [maxLen]; omega) (Nat.zero_le _) ?_)
  intro w1 hown hgr
  have HO1 : Hid (Own w.heap.size w w1 [⟨5, w.heap.size, n * 6, bytesV (outL zs 0)⟩]) := (Own.empty w).made' hgr (Rw.of_owns hown)
  clear hown hgr
  go_wp2_with fail
  go_loopg [3, 4] n (fun gk v i wr => ∃ j g1 c1 nb : Nat, Hid (gk = n - j) ∧ j ≤ n ∧ i = .int .i64 ((2 * j : Nat) : Int) ∧ v = .slice (some ⟨g1, 0, none⟩) nb c1 ∧ nb ≤ 6 * j ∧ Hid ((outL zs j).length = nb) ∧ Hid (Own w.heap.size w wr [⟨5, g1, c1, bytesV (outL zs j)⟩]))
  case atStart => exact ⟨0, w.heap.size, n * 6, 0, rfl, Nat.zero_le _, rfl, rfl, Nat.zero_le _, rfl, HO1⟩
  case round =>
    obtain ⟨j, g1, c1, nb, HG, hj, rfl, rfl, hnb, HL, HO⟩ := hrel
    by_cases hlt : j < n
    · obtain ⟨p, hp⟩ : ∃ p, p = zs.getD (2 * j) 0 := ⟨_, rfl⟩
      obtain ⟨q, hq⟩ : ∃ q, q = zs.getD (2 * j + 1) 0 := ⟨_, rfl⟩
      have p0 : 0 ≤ p := by rw [hp]; exact (HB.out _).1
      have p1 : p ≤ 255 := by rw [hp]; exact (HB.out _).2
      have q0 : 0 ≤ q := by rw [hq]; exact (HB.out _).1
      have q1 : q ≤ 255 := by rw [hq]; exact (HB.out _).2
      have HX : Hid (pairV zs j = p * 256 + q) := by rw [hp, hq]; rfl
      have hor := or256 p q p0 p1 q0 q1
      have HJ : Hid (¬ j = 0 → 0 < j) := fun h => by omega
      go_upto_if 22 with fail
      go_cut [3] from 15 to 40 (fun v wc => ∃ g2 c2 nb2 : Nat, v = .slice (some ⟨g2, 0, none⟩) nb2 c2 ∧ nb2 ≤ 6 * j + 1 ∧ Hid ((outL zs j ++ if j = 0 then [] else [45]).length = nb2) ∧ Hid (Own w.heap.size w wc [⟨5, g2, c2, bytesV (outL zs j ++ if j = 0 then [] else [45])⟩]))
      case first =>
        by_cases hj0 : j = 0
        · subst hj0
          go_wp2
          go_meet
          case rel => exact ⟨g1, c1, nb, rfl, by omega, by rw [if_pos trivial, List.append_nil]; exact HL, by rw [if_pos trivial, List.append_nil]; exact HO⟩
        · have hjp : 0 < j := HJ.out hj0
          have HJ0 : Hid (¬ j = 0) := hj0
          clear hj0
          go_wp2_with (at_builtin; refine wpList_own HO rfl (.tmp 23) (.tmp 24) 26 rfl 5 i0 (.int .u8 0) 1 Try.underlying26 hi hz0 hz1 hz2 rfl 0 g1 nb c1 (bytesV (outL zs j)) (bytesV [45]) rfl rfl 1 1 _ rfl rfl (by rw [bytesV_length]; exact HL.out) rfl (ints_oneCell _ _) (by simp only [maxLen]; omega) (by omega) ?_)
          intro g2 c2 w2 HO2
          go_wp2
          go_meet
          case rel => exact ⟨g2, c2, nb + 1, rfl, by omega, by rw [if_neg HJ0.out, List.length_append, HL.out]; rfl, by rw [if_neg HJ0.out, bytesV_append]; exact HO2⟩
      case rest =>
        obtain ⟨g2, c2, nb2, rfl, hnb2, HL2, HO2⟩ := hcut
        have cp : wc.cell? ⟨g, 2 * j, none⟩ = some (.int .u8 p) := by rw [hp]; exact (HO2.out.below.cell (p := ⟨g, 2 * j, none⟩) hg).trans (HC.out (2 * j) (by omega))
        have cq : wc.cell? ⟨g, 2 * j + 1, none⟩ = some (.int .u8 q) := by rw [hq]; exact (HO2.out.below.cell (p := ⟨g, 2 * j + 1, none⟩) hg).trans (HC.out (2 * j + 1) (by omega))
        clear hp hq
        have k1 : (2 * (j : Int)) < (m : Int) := by omega
        have k2 : (2 * (j : Int)) + 1 < (m : Int) := by omega
        have k3 : (0 : Int) ≤ 2 * (j : Int) := by omega
        have k4 : (0 : Int) ≤ 2 * (j : Int) + 1 := by omega
        have k5 : IntKind.i64.wrap (2 * (j : Int) + 1) = 2 * (j : Int) + 1 := by rw [IntKind.wrap_i64]; omega
        have k6 : (2 * (j : Int)).toNat = 2 * j := by omega
        have k7 : (2 * (j : Int) + 1).toNat = 2 * j + 1 := by omega
        have k8 : IntKind.u16.wrap p = p := by rw [IntKind.wrap_u16]; omega
        have k9 : IntKind.u16.wrap q = q := by rw [IntKind.wrap_u16]; omega
        have k10 : IntKind.u16.wrap (p * 256) = p * 256 := by rw [IntKind.wrap_u16]; omega
        have hne : g ≠ g2 := by have := (HO2.out.rows _ List.mem_cons_self).2; simp only at this; omega
        have HOwn : Hid (wc.ownsRow 0 5 1 (.slice (some ⟨g2, 0, none⟩) nb2 c2) nb2 (bytesV (outL zs j ++ if j = 0 then [] else [45]))) := by
          have h := (HO2.out.row (i := 0) rfl).owns
          rw [bytesV_length, HL2.out] at h
          exact h
        go_wp2_with fail
        go_region_held3 (fun w' => w'.cell? ⟨g, 2 * j, none⟩ = some (.int .u8 p) ∧ w'.cell? ⟨g, 2 * j + 1, none⟩ = some (.int .u8 q)) (first | go_keep | exact ⟨hgr.cell cp (by simp [Value.ownBlock]; omega), hgr.cell cq (by simp [Value.ownBlock]; omega)⟩) ((go_at_call 20; refine (appendWord_any (.slice (some ⟨g2, 0, none⟩) nb2 c2) nb2 _ (p * 256 + q) _ (by omega) (by omega) HOwn.out.drew (by omega)).mono ?_; rintro e w' ⟨g3, c3, rfl, hR, hgr, hat⟩))
        have HO3 : Hid (Own w.heap.size w w' [⟨5, g3, c3, bytesV (outL zs (j + 1))⟩]) := by
          have hO2' : Own w.heap.size w wc.drew [⟨5, g2, c2, bytesV (outL zs j ++ if j = 0 then [] else [45])⟩] := ⟨HO2.out.rows, HO2.out.apart, ⟨HO2.out.below.os, HO2.out.below.tape, HO2.out.below.output, HO2.out.below.size, HO2.out.below.block⟩, HO2.out.base⟩
          rw [← bytesV_append, ← HX.out] at hR
          exact hO2'.upd (i := 0) rfl ⟨hgr, by rcases hat with h | h
                                               · exact .inl (by simpa [Value.ownBlock] using h.symm)
                                               · exact .inr h⟩ hR
        have HL3 : Hid ((outL zs (j + 1)).length = nb2 + 5) := by
          show (outL zs (j + 1)).length = nb2 + 5
          rw [← HL2.out, outL, List.length_append]; rfl
        clear hR hgr hat HO2 HOwn HO cp cq k5 k6 k7 k8 k9 k10
        go_wp2
        go_roundg (n - (j + 1))
        case measure => have := HG.out; omega
        case rel => exact ⟨j + 1, g3, c3, nb2 + 5, rfl, by omega, by go_num, rfl, by omega, HL3, HO3⟩
    · obtain rfl : j = n := by omega
      have hconv := run_convert_bytes_arg (P := Try.prog) wr 26 5 Try.underlying26 Try.underlying5 g1 0 nb c1 (outL zs j) HL.out (fun i hi => by
        rw [Nat.zero_add, (HO.out.row (i := 0) rfl).cell i (by rw [bytesV_length, HL.out]; exact hi), bytesV_get _ i (by rw [HL.out]; exact hi)]) 9 Try.underlying9
      go_wp2
      go_ret
      exact ⟨rfl, HO.out.below⟩

/-- Of nothing: the empty string. -/
theorem encode_none (ao : Option Addr) (cap : Nat) (w : World) : Calls Try.prog 15 #[.slice ao 0 cap] w fun e w' => e = .returned (.string (strOfNums [])) ∧ Below w.heap.size w w' := by
  obtain ⟨i0, hi, hz0, hz1, hz2⟩ := info_parts info5
  go_enter Try.func15, Try.ntmps15
  go_wp2_with (at_make; refine wpList_make_own _ rfl _ _ 26 rfl 0 5 i0 (.int .u8 0) 1 Try.underlying26 hi hz0 hz1 _ _ _ 0 rfl rfl (by omega) (by rw [hz2]; omega) (by simp only [maxLen]; omega) (Nat.zero_le _) ?_)
  intro w1 hown hgr
  have HO1 : Hid (Own w.heap.size w w1 [⟨5, w.heap.size, 0, bytesV []⟩]) := (Own.empty w).made' hgr (Rw.of_owns hown)
  clear hown hgr
  go_wp2_with fail
  go_loopg [3, 4] 0 (fun gk v i wr => i = .int .i64 0 ∧ v = .slice (some ⟨w.heap.size, 0, none⟩) 0 0 ∧ wr = w1)
  case atStart => exact ⟨rfl, rfl, rfl⟩
  case round =>
    obtain ⟨rfl, rfl, hwr⟩ := hrel
    obtain rfl := hwr.symm
    have hconv := run_convert_bytes_arg (P := Try.prog) w1 26 5 Try.underlying26 Try.underlying5 w.heap.size 0 0 0 [] rfl (fun i hi => by omega) 9 Try.underlying9
    go_wp2
    go_ret
    exact ⟨rfl, HO1.out.below⟩
end Go.Proofs.Qxb6600347a
