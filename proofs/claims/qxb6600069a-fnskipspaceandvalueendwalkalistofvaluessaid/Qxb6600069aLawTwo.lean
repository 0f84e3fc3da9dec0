/-
  SEAT b6600069a: THE WALK OF FnSkipSpaceAndValueEndWalkAListOfValues.
-/
import Derived.Test.Qxb6600069aLawKit
import Derived.Test.Qxb6600069aWalkPlain
import Derived.Deep.LoopGhost
namespace Go.Proofs.Qxb6600069a
open Go.RowKit Plain

/-- What the law's own loop reads: the text 'raw' (N bytes, in block g3), the starts, the ends. -/
structure Facts2 (T : List Int) (SS EE : List Nat) (N n gs ge g3 : Nat) (w8 : World) : Prop where
  len : (rawW T).length = N
  nS : SS.length = n
  byte : ∀ j, 0 ≤ (rawW T).getD j 0 ∧ (rawW T).getD j 0 ≤ 255
  cell : ∀ j, j < N → w8.cell? ⟨g3, j, none⟩ = some (.int .u8 ((rawW T).getD j 0))
  first : 0 + spn ((rawW T).drop 0) = posn SS N 0
  at_ : ∀ k, k < n → ∃ s e : Nat, SS.getD k 0 = s ∧ w8.cell? ⟨gs, k, none⟩ = some (.int .i64 (s : Int)) ∧ w8.cell? ⟨ge, k, none⟩ = some (.int .i64 (e : Int)) ∧ 2 + s < N ∧ 2 + e ≤ N ∧ 2 + s + vlen ((rawW T).drop (2 + s)) = 2 + e ∧
      (k + 1 < n → 2 + e + spn ((rawW T).drop (2 + e)) = 2 + e + 1 ∧ 2 + e + 2 ≤ N ∧ (rawW T).getD (2 + e + 1) 0 = 44 ∧ 2 + e + 1 + 1 + spn ((rawW T).drop (2 + e + 1 + 1)) = posn SS N (k + 1)) ∧
      (¬ k + 1 < n → 2 + e + spn ((rawW T).drop (2 + e)) = posn SS N (k + 1))

theorem law2_facts (z1 : List Int) (nT n gb cb gs cs ge ce g3 k3 : Nat) (w3 w8 : World)
    (hT : (gen true [] (z1.map (· % 8))).length = nT) (hS : (stR true 0 [] (z1.map (· % 8))).length = n) (hE : (enR true 0 [] (z1.map (· % 8))).length = n)
    (hO : Own w3.heap.size w3 w8 [⟨5, g3, k3, bytesV (([10, 32] ++ gen true [] (z1.map (· % 8))) ++ [32, 13, 10])⟩, ⟨5, gb, cb, bytesV (gen true [] (z1.map (· % 8)))⟩, ⟨3, gs, cs, natsV (stR true 0 [] (z1.map (· % 8)))⟩, ⟨3, ge, ce, natsV (enR true 0 [] (z1.map (· % 8)))⟩]) :
    Facts2 (gen true [] (z1.map (· % 8))) (stR true 0 [] (z1.map (· % 8))) (enR true 0 [] (z1.map (· % 8))) (nT + 5) n gs ge g3 w8 := by
  have hlen : (rawW (gen true [] (z1.map (· % 8)))).length = nT + 5 := by rw [raw_len, hT]
  have hraw : ([10, 32] ++ gen true [] (z1.map (· % 8))) ++ [32, 13, 10] = rawW (gen true [] (z1.map (· % 8))) := by rw [rawW, tail3, List.append_assoc]
  have hops : ∀ o ∈ z1.map (· % 8), (0 : Int) ≤ o := by
    intro o ho
    obtain ⟨x, _, rfl⟩ := List.mem_map.1 ho
    show 0 ≤ x % 8
    omega
  obtain ⟨f1, f2⟩ := walk_law (z1.map (· % 8)) hops _ rfl _ _ rfl rfl (nT + 5) (by rw [hT])
  refine ⟨hlen, hS, ?_, ?_, f1, ?_⟩
  · intro j
    by_cases hj : j < (rawW (gen true [] (z1.map (· % 8)))).length
    · have hm : ∀ b ∈ rawW (gen true [] (z1.map (· % 8))), 0 ≤ b ∧ b ≤ 255 := by
        intro b hb
        rcases List.mem_append.1 hb with hb | hb
        · simp at hb; omega
        · rcases List.mem_append.1 hb with hb | hb
          · exact gen_byte _ _ _ b hb
          · simp [tail3] at hb; omega
      have := hm _ (List.getElem_mem hj)
      simpa [List.getD, hj] using this
    · simp [List.getD, List.getElem?_eq_none (by omega : (rawW (gen true [] (z1.map (· % 8)))).length ≤ j)]
  · intro j hj
    have hr := hO.row (i := 0) rfl
    rw [hraw] at hr
    rw [hr.cell j (by rw [bytesV_length, hlen]; exact hj), bytesV_get _ j (by rw [hlen]; exact hj)]
  · intro k hk
    obtain ⟨s, e, hs, he, f3, f4, f5, f6, f7⟩ := f2 k (by rw [hS]; exact hk)
    rw [hS] at f6 f7
    refine ⟨s, e, hs, ?_, ?_, f3, f4, f5, f6, f7⟩
    · rw [(hO.row (i := 2) rfl).cell k (by rw [natsV_length, hS]; exact hk), natsV_get _ k (by rw [hS]; exact hk), hs]
    · rw [(hO.row (i := 3) rfl).cell k (by rw [natsV_length, hE]; exact hk), natsV_get _ k (by rw [hE]; exact hk), he]

set_option maxRecDepth 100000 in
set_option maxHeartbeats 2000000 in
theorem law2_on (a1 : Option Addr) (l1 c1 : Nat) (z1 : List Int) (w : World)
    (s1 : Src w (.slice a1 l1 c1) l1 z1) (n1 : a1 = none → l1 = 0 ∧ c1 = 0) (b1 : ∀ j, 0 ≤ z1.getD j 0 ∧ z1.getD j 0 ≤ 255) (h3 : l1 ≤ 16384) :
    Calls Try.prog 4 #[.slice a1 l1 c1] w fun e w' => e = .returned (.bool true) ∧ Below w.heap.size w w' := by
  obtain ⟨i5, hi5, hz50, hz51, hz52⟩ := info_parts info5
  have S1 : Hid (Src w (.slice a1 l1 c1) l1 z1) := s1
  have N1 : Hid (a1 = none → l1 = 0 ∧ c1 = 0) := n1
  have B1 : Hid (∀ j, 0 ≤ z1.getD j 0 ∧ z1.getD j 0 ≤ 255) := b1
  clear s1 n1 b1
  go_enter Try.func4, Try.ntmps4
  go_wp2_with (go_at_call 18; refine (bytes18_yes _ _ _ _ (by omega)).mono ?_; rintro e w' ⟨rfl, hw'⟩; obtain rfl := hw'.symm)
  refine (clone_any a1 l1 c1 z1 _ (by omega) S1.out N1.out).mono ?_
  rintro e w1 ⟨a1', c1', rfl, hs1, hB1⟩
  have S1' : Hid (Src w1 (.slice a1' l1 c1') l1 z1) := hs1
  have BW1 : Hid (Below w.heap.size w w1) := hB1
  clear hs1 hB1 S1 N1
  go_wp2_with fail
  refine (ser_law a1' l1 c1' z1 _ h3 S1'.out B1.out).mono ?_
  rintro e w4 ⟨gb, cb, gs, cs, ge, ce, nT, n, rfl, hnT, hn, HSer⟩
  go_wp2_with (at_make; refine wpList_make_own _ rfl _ _ 22 rfl 0 5 i5 (.int .u8 0) 1 Try.underlying22 hi5 hz50 hz51 _ _ _ (nT + 5) rfl rfl (by omega) (by rw [hz52]; omega) (by simp only [maxLen]; omega) (Nat.zero_le _) ?_)
  intro w5 hown hgr
  have HO5 : Hid (Own w1.heap.size w1 w5 _) := HSer.out.2.2.2.make hgr (Rw.of_owns hown) rfl
  clear hown hgr
  go_wp2_with (at_builtin; refine app_u8 HO5 0 w4.heap.size 0 (nT + 5) [] [10, 32] rfl rfl 2 rfl (by omega) 33 34 rfl rfl rfl _ rfl rfl ?_)
  intro g1 k1 w6 HO6
  have HR1 : Hid ((Rw.mk 5 g1 k1 (bytesV [10, 32])).In w6) := HO6.out.row (i := 0) rfl
  have hne1 : gb ≠ g1 := by have := HO6.out.apart; simp at this; omega
  have C1 : Hid (Cells w6 g1 (some ⟨gb, 0, none⟩) nT (gen true [] (z1.map (· % 8)))) := (HO6.out.row (i := 1) rfl).lends HSer.out.1 hne1
  clear hne1 HO5
  go_wp2_with fail
  refine (appendBytes_any g1 2 k1 (bytesV [10, 32]) (some ⟨gb, 0, none⟩) nT cb (gen true [] (z1.map (· % 8))) _ rfl HR1.out HSer.out.1 C1.out (by omega)).mono ?_
  rintro e w7 ⟨g2, k2, rfl, hR2, hU2⟩
  rw [← bytesV_append] at hR2
  have HO7 : Hid (Own w1.heap.size w1 w7 [⟨5, g2, k2, bytesV ([10, 32] ++ gen true [] (z1.map (· % 8)))⟩, ⟨5, gb, cb, bytesV (gen true [] (z1.map (· % 8)))⟩, ⟨3, gs, cs, natsV (stR true 0 [] (z1.map (· % 8)))⟩, ⟨3, ge, ce, natsV (enR true 0 [] (z1.map (· % 8)))⟩]) := HO6.out.upd (i := 0) rfl hU2 hR2
  have HL7 : Hid (([10, 32] ++ gen true [] (z1.map (· % 8))).length = 2 + nT) := by show _ = _; rw [List.length_append, HSer.out.1]; rfl
  clear hR2 hU2 HO6 HR1 C1
  go_wp2_with (at_builtin; refine app_u8 HO7 0 g2 (2 + nT) k2 ([10, 32] ++ gen true [] (z1.map (· % 8))) [32, 13, 10] rfl HL7 3 rfl (by omega) 39 40 rfl rfl rfl _ rfl rfl ?_)
  intro g3 k3 w8 HO8
  obtain ⟨T, hT⟩ : ∃ T, T = gen true [] (z1.map (· % 8)) := ⟨_, rfl⟩
  obtain ⟨SS, hSS⟩ : ∃ SS, SS = stR true 0 [] (z1.map (· % 8)) := ⟨_, rfl⟩
  obtain ⟨EE, hEE⟩ : ∃ EE, EE = enR true 0 [] (z1.map (· % 8)) := ⟨_, rfl⟩
  have hO8 : Own w1.heap.size w1 w8 [⟨5, g3, k3, bytesV (([10, 32] ++ gen true [] (z1.map (· % 8))) ++ [32, 13, 10])⟩, ⟨5, gb, cb, bytesV (gen true [] (z1.map (· % 8)))⟩, ⟨3, gs, cs, natsV (stR true 0 [] (z1.map (· % 8)))⟩, ⟨3, ge, ce, natsV (enR true 0 [] (z1.map (· % 8)))⟩] := by
    have h := HO8.out
    simp only [List.cons_append, List.nil_append] at h ⊢
    exact h
  have F := law2_facts z1 nT n gb cb gs cs ge ce g3 k3 w1 w8 HSer.out.1 HSer.out.2.1 HSer.out.2.2.1 hO8
  rw [← hT, ← hSS, ← hEE] at F
  have HF : Hid (Facts2 T SS EE (nT + 5) n gs ge g3 w8) := F
  have HB8 : Hid (Below w.heap.size w w8) := BW1.out.trans (hO8.below.mono BW1.out.size)
  obtain ⟨N, hN⟩ : ∃ N, N = nT + 5 := ⟨_, rfl⟩
  have hN1 : N ≤ nT + 5 := by omega
  have hN2 : nT + 5 ≤ N := by omega
  rw [show 2 + nT + 3 = N from by omega]
  rw [← hN] at HF
  obtain ⟨x0, hx0⟩ : ∃ x, x = posn SS N 0 := ⟨_, rfl⟩
  have hx0n : x0 ≤ N := by
    have h1 := HF.out.first
    have h2 := spn_le ((rawW T).drop 0)
    rw [List.length_drop, HF.out.len] at h2
    omega
  have HX0 : Hid (0 + spn ((rawW T).drop 0) = x0) := by rw [hx0]; exact HF.out.first
  have HP0 : Hid (x0 = posn SS N 0) := hx0
  clear hO8 F HO7 HO8 HL7 S1' HSer BW1 B1 hT hSS hEE hN hx0
  go_wp2_with (go_at_call 19; refine (ZZskipSpace_at g3 N k3 (rawW T) 0 x0 _ _ HF.out.len (by omega) (by omega) (by omega) HX0.out HF.out.cell).mono ?_; rintro e w' ⟨rfl, hw'⟩; obtain rfl := hw'.symm)
  go_loopg [7, 8] n (fun gk y i wr => ∃ k x : Nat, Hid (gk = n - k) ∧ k ≤ n ∧ i = .int .i64 k ∧ y = .int .i64 x ∧ x ≤ N ∧ Hid (x = posn SS N k) ∧ wr = w8)
  case atStart => exact ⟨0, x0, rfl, Nat.zero_le _, rfl, rfl, hx0n, HP0, rfl⟩
  case round =>
    obtain ⟨k, x, HG, hk, rfl, rfl, hxN, HP, hwr⟩ := hrel
    obtain rfl := hwr.symm
    by_cases hlt : k < n
    · obtain ⟨s, e, hs, fs, fe, f1, f2, f3, f4, f5⟩ := HF.out.at_ k hlt
      have hxs : x = 2 + s := by rw [HP.out, posn, if_pos (by rw [HF.out.nS]; exact hlt), hs]
      subst hxs
      have F3 : Hid (2 + s + vlen ((rawW T).drop (2 + s)) = 2 + e) := f3
      clear f3 hs HP
      by_cases hk1 : k + 1 < n
      · obtain ⟨g4, g5, g6, g7⟩ := f4 hk1
        obtain ⟨y, hy⟩ : ∃ y, y = posn SS N (k + 1) := ⟨_, rfl⟩
        rw [← hy] at g7
        have hyN : y ≤ N := by
          have h2 := spn_le ((rawW T).drop (2 + e + 1 + 1))
          rw [List.length_drop, HF.out.len] at h2
          omega
        have G4 : Hid (2 + e + spn ((rawW T).drop (2 + e)) = 2 + e + 1) := g4
        have G7 : Hid (2 + e + 1 + 1 + spn ((rawW T).drop (2 + e + 1 + 1)) = y) := g7
        have HY : Hid (y = posn SS N (k + 1)) := hy
        have hcc := HF.out.cell (2 + e + 1) (by omega)
        rw [g6] at hcc
        clear g4 g6 g7 hy f4 f5
        go_wp2_with fail
        refine (ZZvalueEnd_at g3 N k3 (rawW T) (2 + s) (2 + e) _ _ HF.out.len (by omega) (by omega) (by omega) F3.out HF.out.byte HF.out.cell).mono ?_
        rintro _ w' ⟨rfl, hw'⟩
        obtain rfl := hw'.symm
        go_wp2_with fail
        refine (ZZskipSpace_at g3 N k3 (rawW T) (2 + e) (2 + e + 1) _ _ HF.out.len (by omega) (by omega) (by omega) G4.out HF.out.cell).mono ?_
        rintro _ w' ⟨rfl, hw'⟩
        obtain rfl := hw'.symm
        go_wp2_with fail
        refine (ZZskipSpace_at g3 N k3 (rawW T) (2 + e + 1 + 1) y _ _ HF.out.len (by omega) (by omega) (by omega) G7.out HF.out.cell).mono ?_
        rintro _ w' ⟨rfl, hw'⟩
        obtain rfl := hw'.symm
        go_wp2
        go_roundg (n - (k + 1))
        case measure => have := HG.out; omega
        case rel => exact ⟨k + 1, y, rfl, by omega, by go_num, rfl, hyN, HY, rfl⟩
      · have g4 := f5 hk1
        obtain ⟨y, hy⟩ : ∃ y, y = posn SS N (k + 1) := ⟨_, rfl⟩
        rw [← hy] at g4
        have hyN : y ≤ N := by
          have h2 := spn_le ((rawW T).drop (2 + e))
          rw [List.length_drop, HF.out.len] at h2
          omega
        have G4 : Hid (2 + e + spn ((rawW T).drop (2 + e)) = y) := g4
        have HY : Hid (y = posn SS N (k + 1)) := hy
        clear g4 hy f4 f5
        go_wp2_with fail
        refine (ZZvalueEnd_at g3 N k3 (rawW T) (2 + s) (2 + e) _ _ HF.out.len (by omega) (by omega) (by omega) F3.out HF.out.byte HF.out.cell).mono ?_
        rintro _ w' ⟨rfl, hw'⟩
        obtain rfl := hw'.symm
        go_wp2_with fail
        refine (ZZskipSpace_at g3 N k3 (rawW T) (2 + e) y _ _ HF.out.len (by omega) (by omega) (by omega) G4.out HF.out.cell).mono ?_
        rintro _ w' ⟨rfl, hw'⟩
        obtain rfl := hw'.symm
        go_wp2
        go_roundg (n - (k + 1))
        case measure => have := HG.out; omega
        case rel => exact ⟨k + 1, y, rfl, by omega, by go_num, rfl, hyN, HY, rfl⟩
    · have hxe : x = N := by rw [HP.out, posn, if_neg (by rw [HF.out.nS]; exact hlt)]
      subst hxe
      go_wp2
      go_ret
      exact ⟨rfl, HB8.out⟩

theorem law2_no0 (a1 : Option Addr) (l1 c1 : Nat) (w : World) (h1 : ¬ l1 ≤ 1048576) : Calls Try.prog 4 #[.slice a1 l1 c1] w fun e w' => e = .returned (.bool true) ∧ Below w.heap.size w w' := by
  go_enter Try.func4, Try.ntmps4
  go_wp2_with (go_at_call 18; refine (bytes18_no _ _ _ _ h1).mono ?_; rintro e w' ⟨rfl, hw'⟩; obtain rfl := hw'.symm)
  go_ret
  exact ⟨rfl, Below.refl _ _⟩
theorem law2_no1 (a1 : Option Addr) (l1 c1 : Nat) (w : World) (h1 : l1 ≤ 1048576) (h2 : ¬ l1 ≤ 16384) : Calls Try.prog 4 #[.slice a1 l1 c1] w fun e w' => e = .returned (.bool true) ∧ Below w.heap.size w w' := by
  go_enter Try.func4, Try.ntmps4
  go_wp2_with (go_at_call 18; refine (bytes18_yes _ _ _ _ h1).mono ?_; rintro e w' ⟨rfl, hw'⟩; obtain rfl := hw'.symm)
  go_ret
  exact ⟨rfl, Below.refl _ _⟩

/-- THE LAW: whatever the slice. -/
theorem law2_any (a1 : Option Addr) (l1 c1 : Nat) (z1 : List Int) (w : World) (s1 : Src w (.slice a1 l1 c1) l1 z1) (n1 : a1 = none → l1 = 0 ∧ c1 = 0) (b1 : ∀ j, 0 ≤ z1.getD j 0 ∧ z1.getD j 0 ≤ 255) :
    Calls Try.prog 4 #[.slice a1 l1 c1] w fun e w' => e = .returned (.bool true) ∧ Below w.heap.size w w' := by
  by_cases h1 : l1 ≤ 1048576
  · by_cases h2 : l1 ≤ 16384
    · exact law2_on a1 l1 c1 z1 w s1 n1 b1 h2
    · exact law2_no1 a1 l1 c1 w h1 h2
  · exact law2_no0 a1 l1 c1 w h1
end Go.Proofs.Qxb6600069a
