/-
  SEAT b6600069a: THE WALK OF FnValueEndFindsTheEndOfEveryWrittenValue.
-/
import Derived.Test.Qxb6600069aLawKit
import Derived.Deep.QuietTactic
import Derived.BigQuiet
import Derived.Deep.LoopGhost
namespace Go.Proofs.Qxb6600069a
open Go.RowKit Plain

/-- The suffix that the law goes on with: none, or one that opens with a delimiter. -/
def Opens (z2 : List Int) : Prop := ∀ c t, z2 = c :: t → isDl c = true

/-- What the law's own loop reads. -/
structure Facts (z0 z1 z2 : List Int) (l0 l2 nT n gs ge g3 : Nat) (w8 : World) : Prop where
  len : (z0 ++ (gen true [] (z1.map (· % 8)) ++ z2)).length = l0 + nT + l2
  byte : ∀ j, 0 ≤ (z0 ++ (gen true [] (z1.map (· % 8)) ++ z2)).getD j 0 ∧ (z0 ++ (gen true [] (z1.map (· % 8)) ++ z2)).getD j 0 ≤ 255
  cell : ∀ j, j < l0 + nT + l2 → w8.cell? ⟨g3, j, none⟩ = some (.int .u8 ((z0 ++ (gen true [] (z1.map (· % 8)) ++ z2)).getD j 0))
  at_ : ∀ k, k < n → ∃ s e : Nat, w8.cell? ⟨gs, k, none⟩ = some (.int .i64 (s : Int)) ∧ w8.cell? ⟨ge, k, none⟩ = some (.int .i64 (e : Int)) ∧ l0 + s < l0 + nT + l2 ∧ l0 + e ≤ l0 + nT + l2 ∧
    l0 + s + vlen ((z0 ++ (gen true [] (z1.map (· % 8)) ++ z2)).drop (l0 + s)) = l0 + e ∧ True

theorem byte_all {l : List Int} (h : ∀ b ∈ l, 0 ≤ b ∧ b ≤ 255) (j : Nat) : 0 ≤ l.getD j 0 ∧ l.getD j 0 ≤ 255 := by
  by_cases hj : j < l.length
  · have := h l[j] (List.getElem_mem hj)
    simpa [List.getD, hj] using this
  · simp [List.getD, List.getElem?_eq_none (by omega : l.length ≤ j)]
theorem byte_mem {l : List Int} (h : ∀ j, 0 ≤ l.getD j 0 ∧ l.getD j 0 ≤ 255) : ∀ b ∈ l, 0 ≤ b ∧ b ≤ 255 := by
  intro b hb
  obtain ⟨j, hj, rfl⟩ := List.mem_iff_getElem.1 hb
  have := h j
  simpa [List.getD, hj] using this

theorem law1_facts (z0 z1 z2 : List Int) (l0 l1 l2 nT n gb cb gs cs ge ce g3 k3 : Nat) (w3 w8 : World) (e0 : z0.length = l0) (_e1 : z1.length = l1) (e2 : z2.length = l2)
    (b0 : ∀ j, 0 ≤ z0.getD j 0 ∧ z0.getD j 0 ≤ 255) (b2 : ∀ j, 0 ≤ z2.getD j 0 ∧ z2.getD j 0 ≤ 255) (hop : Opens z2)
    (hT : (gen true [] (z1.map (· % 8))).length = nT) (hS : (stR true 0 [] (z1.map (· % 8))).length = n) (hE : (enR true 0 [] (z1.map (· % 8))).length = n)
    (hO : Own w3.heap.size w3 w8 [⟨5, g3, k3, bytesV z0 ++ bytesV (gen true [] (z1.map (· % 8))) ++ bytesV z2⟩, ⟨5, gb, cb, bytesV (gen true [] (z1.map (· % 8)))⟩, ⟨3, gs, cs, natsV (stR true 0 [] (z1.map (· % 8)))⟩, ⟨3, ge, ce, natsV (enR true 0 [] (z1.map (· % 8)))⟩]) :
    Facts z0 z1 z2 l0 l2 nT n gs ge g3 w8 := by
  have hlen : (z0 ++ (gen true [] (z1.map (· % 8)) ++ z2)).length = l0 + nT + l2 := by simp only [List.length_append, e0, hT, e2]; omega
  have hops : ∀ o ∈ z1.map (· % 8), (0 : Int) ≤ o := by
    intro o ho
    obtain ⟨x, _, rfl⟩ := List.mem_map.1 ho
    show 0 ≤ x % 8
    omega
  refine ⟨hlen, byte_all ?_, ?_, ?_⟩
  · intro b hb
    rcases List.mem_append.1 hb with hb | hb
    · exact byte_mem b0 b hb
    · rcases List.mem_append.1 hb with hb | hb
      · exact gen_byte _ _ _ b hb
      · exact byte_mem b2 b hb
  · intro j hj
    have hr := hO.row (i := 0) rfl
    rw [List.append_assoc, ← bytesV_append, ← bytesV_append] at hr
    rw [hr.cell j (by rw [bytesV_length, hlen]; exact hj), bytesV_get _ j (by rw [hlen]; exact hj)]
  · intro k hk
    obtain ⟨_, hg⟩ := law_all (z1.map (· % 8)) z2 hops hop
    have hg := hg k (by rw [hS]; exact hk)
    obtain ⟨h1, h2⟩ := law_in z0 _ _ _ hg
    have h3 := vlen_le ((z0 ++ (gen true [] (z1.map (· % 8)) ++ z2)).drop (z0.length + (stR true 0 [] (z1.map (· % 8))).getD k 0))
    rw [List.length_drop, hlen, e0] at h3
    rw [e0] at h2
    rw [hlen, e0] at h1
    refine ⟨_, _, ?_, ?_, h1, by omega, h2, trivial⟩
    · rw [(hO.row (i := 2) rfl).cell k (by rw [natsV_length, hS]; exact hk), natsV_get _ k (by rw [hS]; exact hk)]
    · rw [(hO.row (i := 3) rfl).cell k (by rw [natsV_length, hE]; exact hk), natsV_get _ k (by rw [hE]; exact hk)]

set_option maxRecDepth 100000 in
set_option maxHeartbeats 2000000 in
theorem law1_on (a0 a1 a2 : Option Addr) (l0 c0 l1 c1 l2 c2 : Nat) (z0 z1 z2 : List Int) (w : World) (s0 : Src w (.slice a0 l0 c0) l0 z0) (n0 : a0 = none → l0 = 0 ∧ c0 = 0) (b0 : ∀ j, 0 ≤ z0.getD j 0 ∧ z0.getD j 0 ≤ 255)
    (s1 : Src w (.slice a1 l1 c1) l1 z1) (n1 : a1 = none → l1 = 0 ∧ c1 = 0) (b1 : ∀ j, 0 ≤ z1.getD j 0 ∧ z1.getD j 0 ≤ 255)
    (s2 : Src w (.slice a2 l2 c2) l2 z2) (n2 : a2 = none → l2 = 0 ∧ c2 = 0) (b2 : ∀ j, 0 ≤ z2.getD j 0 ∧ z2.getD j 0 ≤ 255)
    (h1 : l0 + l1 + l2 ≤ 1048576) (h2 : l0 ≤ 262144) (h3 : l1 ≤ 16384) (h4 : l2 ≤ 262144) (hop : Opens z2)
    (hor : l2 = 0 ∨ ∃ b off x, a2 = some ⟨b, off, none⟩ ∧ w.cell? ⟨b, off, none⟩ = some (.int .u8 x) ∧ isDl x = true) :
    Calls Try.prog 3 #[.slice a0 l0 c0, .slice a1 l1 c1, .slice a2 l2 c2] w fun e w' => e = .returned (.bool true) ∧ Below w.heap.size w w' := by
  obtain ⟨i5, hi5, hz50, hz51, hz52⟩ := info_parts info5
  have S0 : Hid (Src w (.slice a0 l0 c0) l0 z0) := s0
  have S1 : Hid (Src w (.slice a1 l1 c1) l1 z1) := s1
  have S2 : Hid (Src w (.slice a2 l2 c2) l2 z2) := s2
  have N0 : Hid (a0 = none → l0 = 0 ∧ c0 = 0) := n0
  have N1 : Hid (a1 = none → l1 = 0 ∧ c1 = 0) := n1
  have N2 : Hid (a2 = none → l2 = 0 ∧ c2 = 0) := n2
  have B0 : Hid (∀ j, 0 ≤ z0.getD j 0 ∧ z0.getD j 0 ≤ 255) := b0
  have B1 : Hid (∀ j, 0 ≤ z1.getD j 0 ∧ z1.getD j 0 ≤ 255) := b1
  have B2 : Hid (∀ j, 0 ≤ z2.getD j 0 ∧ z2.getD j 0 ≤ 255) := b2
  have HOp : Hid (Opens z2) := hop
  clear s0 s1 s2 n0 n1 n2 b0 b1 b2 hop
  have hway : (l2 ≤ 0 ∧ decide ((0 : Int) < (l2 : Int)) = false) ∨ (0 < l2 ∧ ∃ b off x, a2 = some ⟨b, off, none⟩ ∧ w.cell? ⟨b, off, none⟩ = some (.int .u8 x) ∧ isDl x = true) := by
    by_cases hl2 : l2 = 0
    · exact .inl ⟨by omega, decide_eq_false (by omega)⟩
    · exact .inr ⟨by omega, hor.resolve_left hl2⟩
  clear hor
  rcases hway with ⟨hl2, hdec⟩ | ⟨hl2, sb, soff, sx, rfl, hcx, hdx⟩
  · go_enter Try.func3, Try.ntmps3
    go_wp2_with (go_at_call 12; refine (bytes12_yes _ _ _ _ _ _ _ _ _ _ h1).mono ?_; rintro e w' ⟨rfl, hw'⟩; obtain rfl := hw'.symm)
    refine (clone_any a0 l0 c0 z0 _ (by omega) S0.out N0.out).mono ?_
    rintro e w1 ⟨a0', c0', rfl, hs0, hB1⟩
    have S0' : Hid (Src w1 (.slice a0' l0 c0') l0 z0) := hs0
    have BW1 : Hid (Below w.heap.size w w1) := hB1
    have S1' : Hid (Src w1 (.slice a1 l1 c1) l1 z1) := S1.out.later hB1 (Nat.le_refl _)
    have S2' : Hid (Src w1 (.slice _ l2 c2) l2 z2) := S2.out.later hB1 (Nat.le_refl _)
    clear hs0 hB1 S0 S1 S2
    go_wp2_with fail
    refine (clone_any a1 l1 c1 z1 _ (by omega) S1'.out N1.out).mono ?_
    rintro e w2 ⟨a1', c1', rfl, hs1, hB2⟩
    have S1 : Hid (Src w2 (.slice a1' l1 c1') l1 z1) := hs1
    have BW2 : Hid (Below w1.heap.size w1 w2) := hB2
    have S0 : Hid (Src w2 (.slice a0' l0 c0') l0 z0) := S0'.out.later hB2 (Nat.le_refl _)
    have S2 : Hid (Src w2 (.slice _ l2 c2) l2 z2) := S2'.out.later hB2 (Nat.le_refl _)
    clear hs1 hB2 S0' S1' S2'
    go_wp2_with fail
    refine (clone_any _ l2 c2 z2 _ (by omega) S2.out N2.out).mono ?_
    rintro e w3 ⟨a2', c2', rfl, hs2, hB3⟩
    have S2' : Hid (Src w3 (.slice a2' l2 c2') l2 z2) := hs2
    have BW3 : Hid (Below w2.heap.size w2 w3) := hB3
    have S0' : Hid (Src w3 (.slice a0' l0 c0') l0 z0) := S0.out.later hB3 (Nat.le_refl _)
    have S1' : Hid (Src w3 (.slice a1' l1 c1') l1 z1) := S1.out.later hB3 (Nat.le_refl _)
    clear hs2 hB3 S0 S1 S2 N0 N1 N2
    go_wp2_with fail
    refine (ser_law a1' l1 c1' z1 _ h3 S1'.out B1.out).mono ?_
    rintro e w4 ⟨gb, cb, gs, cs, ge, ce, nT, n, rfl, hnT, hn, HSer⟩
    go_wp2_with (at_make; refine wpList_make_own _ rfl _ _ 22 rfl 0 5 i5 (.int .u8 0) 1 Try.underlying22 hi5 hz50 hz51 _ _ _ (l0 + nT + l2) rfl rfl (by omega) (by rw [hz52]; omega) (by simp only [maxLen]; omega) (Nat.zero_le _) ?_)
    intro w5 hown hgr
    obtain ⟨hlT, hlS, hlE, hO4⟩ := HSer.out
    have hR0 := Rw.of_owns hown
    have hO5 := hO4.make hgr hR0 rfl
    have C0 : Hid (Cells w5 w4.heap.size a0' l0 z0) := S0'.out.cells hO5.below (Nat.le_refl _) hO4.base
    have HR0 : Hid ((Rw.mk 5 w4.heap.size (l0 + nT + l2) []).In w5) := hR0
    have HO5 : Hid (Own w3.heap.size w3 w5 _) := hO5
    clear hown hgr hR0 hO5 hO4 hlT hlS hlE
    go_wp2_with fail
    refine (appendBytes_any w4.heap.size 0 _ [] a0' l0 c0' z0 _ rfl HR0.out S0'.out.len C0.out (by omega)).mono ?_
    rintro e w6 ⟨g1, k1, rfl, hR1, hU1⟩
    have hO6 := HO5.out.upd (i := 0) rfl hU1 hR1
    have HR1 : Hid ((Rw.mk 5 g1 k1 (bytesV z0)).In w6) := hR1
    have HO6 : Hid (Own w3.heap.size w3 w6 [⟨5, g1, k1, bytesV z0⟩, ⟨5, gb, cb, bytesV (gen true [] (z1.map (· % 8)))⟩, ⟨3, gs, cs, natsV (stR true 0 [] (z1.map (· % 8)))⟩, ⟨3, ge, ce, natsV (enR true 0 [] (z1.map (· % 8)))⟩]) := hO6
    have hne1 : gb ≠ g1 := by have := hO6.apart; simp at this; omega
    have C1 : Hid (Cells w6 g1 (some ⟨gb, 0, none⟩) nT (gen true [] (z1.map (· % 8)))) := (hO6.row (i := 1) rfl).lends HSer.out.1 hne1
    clear hR1 hU1 hO6 HO5 HR0 C0 hne1
    go_wp2_with fail
    refine (appendBytes_any g1 l0 k1 (bytesV z0) (some ⟨gb, 0, none⟩) nT cb (gen true [] (z1.map (· % 8))) _ (by rw [bytesV_length]; exact S0'.out.len) HR1.out HSer.out.1 C1.out (by omega)).mono ?_
    rintro e w7 ⟨g2, k2, rfl, hR2, hU2⟩
    have hO7 := HO6.out.upd (i := 0) rfl hU2 hR2
    have HR2 : Hid ((Rw.mk 5 g2 k2 (bytesV z0 ++ bytesV (gen true [] (z1.map (· % 8))))).In w7) := hR2
    have HO7 : Hid (Own w3.heap.size w3 w7 [⟨5, g2, k2, bytesV z0 ++ bytesV (gen true [] (z1.map (· % 8)))⟩, ⟨5, gb, cb, bytesV (gen true [] (z1.map (· % 8)))⟩, ⟨3, gs, cs, natsV (stR true 0 [] (z1.map (· % 8)))⟩, ⟨3, ge, ce, natsV (enR true 0 [] (z1.map (· % 8)))⟩]) := hO7
    have C2 : Hid (Cells w7 g2 a2' l2 z2) := S2'.out.cells hO7.below (Nat.le_refl _) (hO7.rows _ (List.mem_cons_self)).2
    clear hR2 hU2 hO7 HO6 HR1 C1
    go_wp2_with fail
    refine (appendBytes_any g2 (l0 + nT) k2 _ a2' l2 c2' z2 _ (by rw [List.length_append, bytesV_length, bytesV_length, S0'.out.len, HSer.out.1]) HR2.out S2'.out.len C2.out (by omega)).mono ?_
    rintro e w8 ⟨g3, k3, rfl, hR3, hU3⟩
    have hO8 := HO7.out.upd (i := 0) rfl hU3 hR3
    have F := law1_facts z0 z1 z2 l0 l1 l2 nT n gb cb gs cs ge ce g3 k3 w3 w8 S0'.out.len S1'.out.len S2'.out.len B0.out B2.out HOp.out HSer.out.1 HSer.out.2.1 HSer.out.2.2.1 hO8
    have HF : Hid (Facts z0 z1 z2 l0 l2 nT n gs ge g3 w8) := F
    have HB8 : Hid (Below w.heap.size w w8) := ((BW1.out.trans (BW2.out.mono BW1.out.size)).trans (BW3.out.mono (Nat.le_trans BW1.out.size BW2.out.size))).trans (hO8.below.mono (Nat.le_trans (Nat.le_trans BW1.out.size BW2.out.size) BW3.out.size))
    clear hR3 hU3 hO8 F HO7 HR2 C2 S0' S1' S2' HSer BW1 BW2 BW3 B0 B1 B2 HOp
    go_wp2_with fail
    go_loopg [12] n (fun gk i wr => ∃ k : Nat, Hid (gk = n - k) ∧ k ≤ n ∧ i = .int .i64 k ∧ Hid (Facts z0 z1 z2 l0 l2 nT n gs ge g3 wr) ∧ Hid (Below w.heap.size w wr))
    case atStart => exact ⟨0, rfl, Nat.zero_le _, rfl, HF, HB8⟩
    case round =>
      obtain ⟨k, HG, hk, rfl, HF, HB⟩ := hrel
      by_cases hlt : k < n
      · obtain ⟨s, e, fs, fe, f1, f2, f3, _⟩ := HF.out.at_ k hlt
        have F3 : Hid (l0 + s + vlen ((z0 ++ (gen true [] (z1.map (· % 8)) ++ z2)).drop (l0 + s)) = l0 + e) := f3
        have f1' : (l0 : Int) + (s : Int) < (l0 : Int) + nT + l2 := by omega
        have hk0 : (0 : Int) ≤ (k : Int) := by omega
        have hk1 : (k : Int) < (n : Int) := by omega
        clear f3
        go_wp2
        go_quiet ((go_at_call 17; refine Calls.quiet_of_same (ZZvalueEnd_at g3 _ k3 (z0 ++ (gen true [] (z1.map (· % 8)) ++ z2)) (l0 + s) (l0 + e) _ _ HF.out.len ?_ ?_ ?_ F3.out HF.out.byte HF.out.cell) <;> omega))
        go_wp2
        go_roundg (n - (k + 1))
        case measure => have := HG.out; omega
        case rel => exact ⟨k + 1, rfl, by omega, by go_num, ⟨HF.out.len, HF.out.byte, HF.out.cell, HF.out.at_⟩, ⟨HB.out.os, HB.out.tape, HB.out.output, HB.out.size, HB.out.block⟩⟩
      · go_wp2
        go_ret
        exact ⟨rfl, HB.out⟩
  · go_enter Try.func3, Try.ntmps3
    go_wp2_with (first | (go_at_call 12; refine (bytes12_yes _ _ _ _ _ _ _ _ _ _ h1).mono ?_; rintro e w' ⟨rfl, hw'⟩; obtain rfl := hw'.symm) | (go_at_call 13; refine (isDelim_any _ _).mono ?_; rintro e w' ⟨rfl, hw'⟩; obtain rfl := hw'.symm; rw [hdx]))
    refine (clone_any a0 l0 c0 z0 _ (by omega) S0.out N0.out).mono ?_
    rintro e w1 ⟨a0', c0', rfl, hs0, hB1⟩
    have S0' : Hid (Src w1 (.slice a0' l0 c0') l0 z0) := hs0
    have BW1 : Hid (Below w.heap.size w w1) := hB1
    have S1' : Hid (Src w1 (.slice a1 l1 c1) l1 z1) := S1.out.later hB1 (Nat.le_refl _)
    have S2' : Hid (Src w1 (.slice _ l2 c2) l2 z2) := S2.out.later hB1 (Nat.le_refl _)
    clear hs0 hB1 S0 S1 S2 hcx
    go_wp2_with fail
    refine (clone_any a1 l1 c1 z1 _ (by omega) S1'.out N1.out).mono ?_
    rintro e w2 ⟨a1', c1', rfl, hs1, hB2⟩
    have S1 : Hid (Src w2 (.slice a1' l1 c1') l1 z1) := hs1
    have BW2 : Hid (Below w1.heap.size w1 w2) := hB2
    have S0 : Hid (Src w2 (.slice a0' l0 c0') l0 z0) := S0'.out.later hB2 (Nat.le_refl _)
    have S2 : Hid (Src w2 (.slice _ l2 c2) l2 z2) := S2'.out.later hB2 (Nat.le_refl _)
    clear hs1 hB2 S0' S1' S2'
    go_wp2_with fail
    refine (clone_any _ l2 c2 z2 _ (by omega) S2.out N2.out).mono ?_
    rintro e w3 ⟨a2', c2', rfl, hs2, hB3⟩
    have S2' : Hid (Src w3 (.slice a2' l2 c2') l2 z2) := hs2
    have BW3 : Hid (Below w2.heap.size w2 w3) := hB3
    have S0' : Hid (Src w3 (.slice a0' l0 c0') l0 z0) := S0.out.later hB3 (Nat.le_refl _)
    have S1' : Hid (Src w3 (.slice a1' l1 c1') l1 z1) := S1.out.later hB3 (Nat.le_refl _)
    clear hs2 hB3 S0 S1 S2 N0 N1 N2
    go_wp2_with fail
    refine (ser_law a1' l1 c1' z1 _ h3 S1'.out B1.out).mono ?_
    rintro e w4 ⟨gb, cb, gs, cs, ge, ce, nT, n, rfl, hnT, hn, HSer⟩
    go_wp2_with (at_make; refine wpList_make_own _ rfl _ _ 22 rfl 0 5 i5 (.int .u8 0) 1 Try.underlying22 hi5 hz50 hz51 _ _ _ (l0 + nT + l2) rfl rfl (by omega) (by rw [hz52]; omega) (by simp only [maxLen]; omega) (Nat.zero_le _) ?_)
    intro w5 hown hgr
    obtain ⟨hlT, hlS, hlE, hO4⟩ := HSer.out
    have hR0 := Rw.of_owns hown
    have hO5 := hO4.make hgr hR0 rfl
    have C0 : Hid (Cells w5 w4.heap.size a0' l0 z0) := S0'.out.cells hO5.below (Nat.le_refl _) hO4.base
    have HR0 : Hid ((Rw.mk 5 w4.heap.size (l0 + nT + l2) []).In w5) := hR0
    have HO5 : Hid (Own w3.heap.size w3 w5 _) := hO5
    clear hown hgr hR0 hO5 hO4 hlT hlS hlE
    go_wp2_with fail
    refine (appendBytes_any w4.heap.size 0 _ [] a0' l0 c0' z0 _ rfl HR0.out S0'.out.len C0.out (by omega)).mono ?_
    rintro e w6 ⟨g1, k1, rfl, hR1, hU1⟩
    have hO6 := HO5.out.upd (i := 0) rfl hU1 hR1
    have HR1 : Hid ((Rw.mk 5 g1 k1 (bytesV z0)).In w6) := hR1
    have HO6 : Hid (Own w3.heap.size w3 w6 [⟨5, g1, k1, bytesV z0⟩, ⟨5, gb, cb, bytesV (gen true [] (z1.map (· % 8)))⟩, ⟨3, gs, cs, natsV (stR true 0 [] (z1.map (· % 8)))⟩, ⟨3, ge, ce, natsV (enR true 0 [] (z1.map (· % 8)))⟩]) := hO6
    have hne1 : gb ≠ g1 := by have := hO6.apart; simp at this; omega
    have C1 : Hid (Cells w6 g1 (some ⟨gb, 0, none⟩) nT (gen true [] (z1.map (· % 8)))) := (hO6.row (i := 1) rfl).lends HSer.out.1 hne1
    clear hR1 hU1 hO6 HO5 HR0 C0 hne1
    go_wp2_with fail
    refine (appendBytes_any g1 l0 k1 (bytesV z0) (some ⟨gb, 0, none⟩) nT cb (gen true [] (z1.map (· % 8))) _ (by rw [bytesV_length]; exact S0'.out.len) HR1.out HSer.out.1 C1.out (by omega)).mono ?_
    rintro e w7 ⟨g2, k2, rfl, hR2, hU2⟩
    have hO7 := HO6.out.upd (i := 0) rfl hU2 hR2
    have HR2 : Hid ((Rw.mk 5 g2 k2 (bytesV z0 ++ bytesV (gen true [] (z1.map (· % 8))))).In w7) := hR2
    have HO7 : Hid (Own w3.heap.size w3 w7 [⟨5, g2, k2, bytesV z0 ++ bytesV (gen true [] (z1.map (· % 8)))⟩, ⟨5, gb, cb, bytesV (gen true [] (z1.map (· % 8)))⟩, ⟨3, gs, cs, natsV (stR true 0 [] (z1.map (· % 8)))⟩, ⟨3, ge, ce, natsV (enR true 0 [] (z1.map (· % 8)))⟩]) := hO7
    have C2 : Hid (Cells w7 g2 a2' l2 z2) := S2'.out.cells hO7.below (Nat.le_refl _) (hO7.rows _ (List.mem_cons_self)).2
    clear hR2 hU2 hO7 HO6 HR1 C1
    go_wp2_with fail
    refine (appendBytes_any g2 (l0 + nT) k2 _ a2' l2 c2' z2 _ (by rw [List.length_append, bytesV_length, bytesV_length, S0'.out.len, HSer.out.1]) HR2.out S2'.out.len C2.out (by omega)).mono ?_
    rintro e w8 ⟨g3, k3, rfl, hR3, hU3⟩
    have hO8 := HO7.out.upd (i := 0) rfl hU3 hR3
    have F := law1_facts z0 z1 z2 l0 l1 l2 nT n gb cb gs cs ge ce g3 k3 w3 w8 S0'.out.len S1'.out.len S2'.out.len B0.out B2.out HOp.out HSer.out.1 HSer.out.2.1 HSer.out.2.2.1 hO8
    have HF : Hid (Facts z0 z1 z2 l0 l2 nT n gs ge g3 w8) := F
    have HB8 : Hid (Below w.heap.size w w8) := ((BW1.out.trans (BW2.out.mono BW1.out.size)).trans (BW3.out.mono (Nat.le_trans BW1.out.size BW2.out.size))).trans (hO8.below.mono (Nat.le_trans (Nat.le_trans BW1.out.size BW2.out.size) BW3.out.size))
    clear hR3 hU3 hO8 F HO7 HR2 C2 S0' S1' S2' HSer BW1 BW2 BW3 B0 B1 B2 HOp
    go_wp2_with fail
    go_loopg [12] n (fun gk i wr => ∃ k : Nat, Hid (gk = n - k) ∧ k ≤ n ∧ i = .int .i64 k ∧ Hid (Facts z0 z1 z2 l0 l2 nT n gs ge g3 wr) ∧ Hid (Below w.heap.size w wr))
    case atStart => exact ⟨0, rfl, Nat.zero_le _, rfl, HF, HB8⟩
    case round =>
      obtain ⟨k, HG, hk, rfl, HF, HB⟩ := hrel
      by_cases hlt : k < n
      · obtain ⟨s, e, fs, fe, f1, f2, f3, _⟩ := HF.out.at_ k hlt
        have F3 : Hid (l0 + s + vlen ((z0 ++ (gen true [] (z1.map (· % 8)) ++ z2)).drop (l0 + s)) = l0 + e) := f3
        have f1' : (l0 : Int) + (s : Int) < (l0 : Int) + nT + l2 := by omega
        have hk0 : (0 : Int) ≤ (k : Int) := by omega
        have hk1 : (k : Int) < (n : Int) := by omega
        clear f3
        go_wp2
        go_quiet ((go_at_call 17; refine Calls.quiet_of_same (ZZvalueEnd_at g3 _ k3 (z0 ++ (gen true [] (z1.map (· % 8)) ++ z2)) (l0 + s) (l0 + e) _ _ HF.out.len ?_ ?_ ?_ F3.out HF.out.byte HF.out.cell) <;> omega))
        go_wp2
        go_roundg (n - (k + 1))
        case measure => have := HG.out; omega
        case rel => exact ⟨k + 1, rfl, by omega, by go_num, ⟨HF.out.len, HF.out.byte, HF.out.cell, HF.out.at_⟩, ⟨HB.out.os, HB.out.tape, HB.out.output, HB.out.size, HB.out.block⟩⟩
      · go_wp2
        go_ret
        exact ⟨rfl, HB.out⟩

/-- A total that is too great. -/
theorem law1_no0 (a0 a1 a2 : Option Addr) (l0 c0 l1 c1 l2 c2 : Nat) (w : World) (h1 : ¬ l0 + l1 + l2 ≤ 1048576) :
    Calls Try.prog 3 #[.slice a0 l0 c0, .slice a1 l1 c1, .slice a2 l2 c2] w fun e w' => e = .returned (.bool true) ∧ Below w.heap.size w w' := by
  go_enter Try.func3, Try.ntmps3
  go_wp2_with (go_at_call 12; refine (bytes12_no _ _ _ _ _ _ _ _ _ _ h1).mono ?_; rintro e w' ⟨rfl, hw'⟩; obtain rfl := hw'.symm)
  go_ret
  exact ⟨rfl, Below.refl _ _⟩

/-- One of the three is too long. -/
theorem law1_no1 (a0 a1 a2 : Option Addr) (l0 c0 l1 c1 l2 c2 : Nat) (w : World) (h1 : l0 + l1 + l2 ≤ 1048576) (h2 : ¬ (l0 ≤ 262144 ∧ l1 ≤ 16384 ∧ l2 ≤ 262144)) :
    Calls Try.prog 3 #[.slice a0 l0 c0, .slice a1 l1 c1, .slice a2 l2 c2] w fun e w' => e = .returned (.bool true) ∧ Below w.heap.size w w' := by
  by_cases g0 : l0 ≤ 262144
  · by_cases g1 : l1 ≤ 16384
    · have g2 : ¬ l2 ≤ 262144 := fun h => h2 ⟨g0, g1, h⟩
      clear h2
      go_enter Try.func3, Try.ntmps3
      go_wp2_with (go_at_call 12; refine (bytes12_yes _ _ _ _ _ _ _ _ _ _ h1).mono ?_; rintro e w' ⟨rfl, hw'⟩; obtain rfl := hw'.symm)
      go_ret
      exact ⟨rfl, Below.refl _ _⟩
    · clear h2
      go_enter Try.func3, Try.ntmps3
      go_wp2_with (go_at_call 12; refine (bytes12_yes _ _ _ _ _ _ _ _ _ _ h1).mono ?_; rintro e w' ⟨rfl, hw'⟩; obtain rfl := hw'.symm)
      go_ret
      exact ⟨rfl, Below.refl _ _⟩
  · clear h2
    go_enter Try.func3, Try.ntmps3
    go_wp2_with (go_at_call 12; refine (bytes12_yes _ _ _ _ _ _ _ _ _ _ h1).mono ?_; rintro e w' ⟨rfl, hw'⟩; obtain rfl := hw'.symm)
    go_ret
    exact ⟨rfl, Below.refl _ _⟩

/-- A suffix that does not open with a delimiter. -/
theorem law1_no2 (a0 a1 : Option Addr) (b off : Nat) (x : Int) (l0 c0 l1 c1 l2 c2 : Nat) (w : World) (h1 : l0 + l1 + l2 ≤ 1048576) (h2 : l0 ≤ 262144) (h3 : l1 ≤ 16384) (h4 : l2 ≤ 262144) (h5 : 0 < l2)
    (hc : w.cell? ⟨b, off, none⟩ = some (.int .u8 x)) (hd : isDl x = false) :
    Calls Try.prog 3 #[.slice a0 l0 c0, .slice a1 l1 c1, .slice (some ⟨b, off, none⟩) l2 c2] w fun e w' => e = .returned (.bool true) ∧ Below w.heap.size w w' := by
  go_enter Try.func3, Try.ntmps3
  go_wp2_with (first | (go_at_call 12; refine (bytes12_yes _ _ _ _ _ _ _ _ _ _ h1).mono ?_; rintro e w' ⟨rfl, hw'⟩; obtain rfl := hw'.symm) | (go_at_call 13; refine (isDelim_any _ _).mono ?_; rintro e w' ⟨rfl, hw'⟩; obtain rfl := hw'.symm; rw [hd]))
  go_ret
  exact ⟨rfl, Below.refl _ _⟩

/-- THE LAW: whatever the three slices. -/
theorem law1_any (a0 a1 a2 : Option Addr) (l0 c0 l1 c1 l2 c2 : Nat) (z0 z1 z2 : List Int) (w : World) (s0 : Src w (.slice a0 l0 c0) l0 z0) (n0 : a0 = none → l0 = 0 ∧ c0 = 0) (b0 : ∀ j, 0 ≤ z0.getD j 0 ∧ z0.getD j 0 ≤ 255)
    (s1 : Src w (.slice a1 l1 c1) l1 z1) (n1 : a1 = none → l1 = 0 ∧ c1 = 0) (b1 : ∀ j, 0 ≤ z1.getD j 0 ∧ z1.getD j 0 ≤ 255)
    (s2 : Src w (.slice a2 l2 c2) l2 z2) (n2 : a2 = none → l2 = 0 ∧ c2 = 0) (b2 : ∀ j, 0 ≤ z2.getD j 0 ∧ z2.getD j 0 ≤ 255) :
    Calls Try.prog 3 #[.slice a0 l0 c0, .slice a1 l1 c1, .slice a2 l2 c2] w fun e w' => e = .returned (.bool true) ∧ Below w.heap.size w w' := by
  by_cases h1 : l0 + l1 + l2 ≤ 1048576
  · by_cases h2 : l0 ≤ 262144 ∧ l1 ≤ 16384 ∧ l2 ≤ 262144
    · obtain ⟨h2, h3, h4⟩ := h2
      have hz2 := s2.len
      have hs2 := s2
      obtain ⟨ao, c, hv, _, hor⟩ := hs2
      simp only [Value.slice.injEq, true_and] at hv
      obtain ⟨rfl, rfl⟩ := hv
      rcases hor with rfl | ⟨b, off, rfl, hb, hc⟩
      · have : z2 = [] := List.eq_nil_of_length_eq_zero hz2
        exact law1_on a0 a1 a2 l0 c0 l1 c1 0 c2 z0 z1 z2 w s0 n0 b0 s1 n1 b1 s2 n2 b2 h1 h2 h3 h4 (by subst this; intro c t h; cases h) (.inl rfl)
      · by_cases h0 : l2 = 0
        · have : z2 = [] := List.eq_nil_of_length_eq_zero (by omega)
          exact law1_on a0 a1 _ l0 c0 l1 c1 l2 c2 z0 z1 z2 w s0 n0 b0 s1 n1 b1 s2 n2 b2 h1 h2 h3 h4 (by subst this; intro c t h; cases h) (.inl h0)
        · have hc0 := hc 0 (by omega)
          rw [Nat.add_zero] at hc0
          cases hd : isDl (z2.getD 0 0) with
          | true =>
            exact law1_on a0 a1 _ l0 c0 l1 c1 l2 c2 z0 z1 z2 w s0 n0 b0 s1 n1 b1 s2 n2 b2 h1 h2 h3 h4 (by intro c t h; subst h; exact hd) (.inr ⟨b, off, _, rfl, hc0, hd⟩)
          | false => exact law1_no2 a0 a1 b off _ l0 c0 l1 c1 l2 c2 w h1 h2 h3 h4 (by omega) hc0 hd
    · exact law1_no1 a0 a1 a2 l0 c0 l1 c1 l2 c2 w h1 h2
  · exact law1_no0 a0 a1 a2 l0 c0 l1 c1 l2 c2 w h1
end Go.Proofs.Qxb6600069a
