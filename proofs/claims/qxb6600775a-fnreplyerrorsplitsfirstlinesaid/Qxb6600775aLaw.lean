/-
  SEAT b6600775a: THE WALK OF FnReplyErrorSplitsFirstLine.
-/
import Derived.Test.Qxb6600775aClone
import Derived.Test.Qxb6600775aReply
import Derived.Lib.IndexLaws
namespace Go.Proofs.Qxb6600775a
open Go.RowKit

theorem data_ext {a b : ByteArray} (h : a.toList = b.toList) : a = b := by
  rw [ByteArray.toList_eq, ByteArray.toList_eq, Array.toList_inj] at h
  exact ByteArray.ext h

/-- What the law asks of a line, its code and its text. -/
def Good (s code text : ByteArray) : Prop :=
  (∀ j (h : j < code.size), code[j] ≠ 32) ∧ code.size ≤ s.size ∧ text.size ≤ s.size ∧
    ((s.toList == (((⟨#[69, 82, 82, 32]⟩ ++ code) ++ ⟨#[32]⟩) ++ text).toList) = true ∨
      ((s.toList == (((⟨#[69, 82, 82, 32]⟩ ++ code) ++ ⟨#[32]⟩) ++ text).toList) = false ∧ text = ⟨#[]⟩ ∧ (s.toList == (⟨#[69, 82, 82, 32]⟩ ++ code : ByteArray).toList) = true))

theorem split4 (s : ByteArray) (hp : ((s.extract 0 4).toList == [69, 82, 82, 32]) = true) : s.toList = [69, 82, 82, 32] ++ (s.extract 4 s.size).toList := by
  rw [beq_iff_eq] at hp
  rw [← hp]
  simp only [ByteArray.toList_eq, ByteArray.data_extract, Array.toList_extract, List.extract_eq_take_drop, List.drop_zero, Nat.sub_zero]
  have e : s.data.toList.length = s.size := Array.length_toList
  rw [← e, ← List.length_drop, List.take_length, List.take_append_drop]

theorem good_cut (s : ByteArray) (hm : s.size ≤ 1048576) (h4 : 4 ≤ s.size) (hp : ((s.extract 0 4).toList == [69, 82, 82, 32]) = true) :
    ∃ code text, Good s code text ∧ ∀ w, ∃ f, Calls Try.prog 11 #[.string (s.extract 4 s.size), .string ⟨#[32]⟩] w fun e w' => e = .returned (.tuple #[.string code, .string text, .bool f]) ∧ ∃ n, w' = w.drewN n := by
  have h0 := split4 s hp
  have hRs : (s.extract 4 s.size).size ≤ s.size := by rw [ByteArray.size_extract]; omega
  obtain ⟨R, hR⟩ : ∃ R, R = s.extract 4 s.size := ⟨_, rfl⟩
  rw [← hR] at h0 hRs ⊢
  have hge := Lib.indexByte_ge R.data.toList 32
  have hRl : R.data.toList.length = R.size := Array.length_toList
  by_cases hi : Lib.indexByte R.data.toList 32 = -1
  · refine ⟨R, ⟨#[]⟩, ⟨fun j hj he => ?_, hRs, by show 0 ≤ _; omega, .inr ⟨?_, rfl, ?_⟩⟩, fun w => ⟨false, cut_no R w (by omega)⟩⟩
    · refine Lib.indexByte_none hi j ?_
      rw [List.getElem?_eq_getElem (by rw [hRl]; exact hj), ← he]
      rfl
    · rw [h0, beq_eq_false_iff_ne]
      intro hc
      have := congrArg List.length hc
      simp only [ByteArray.toList_eq, ByteArray.data_append, Array.toList_append, List.length_append] at this
      simp at this
    · rw [h0, beq_iff_eq]
      simp only [ByteArray.toList_eq, ByteArray.data_append, Array.toList_append]
  · obtain ⟨k, hk⟩ : ∃ k : Nat, Lib.indexByte R.data.toList 32 = (k : Int) := ⟨(Lib.indexByte R.data.toList 32).toNat, by omega⟩
    obtain ⟨h1, h2⟩ := Lib.indexByte_some hk
    have hkl : k < R.size := by rw [← hRl]; exact (List.getElem?_eq_some_iff.1 h1).1
    refine ⟨R.extract 0 k, R.extract (k + 1) R.size, ⟨fun j hj he => ?_, by rw [ByteArray.size_extract]; omega, by rw [ByteArray.size_extract]; omega, .inl ?_⟩, fun w => ⟨true, cut_yes R k w (by omega) hkl hk⟩⟩
    · rw [ByteArray.size_extract] at hj
      refine h2 j (by omega) ?_
      rw [List.getElem?_eq_getElem (by rw [hRl]; omega), ← he]
      rw [ByteArray.getElem_extract]
      simp only [Nat.zero_add]
      rfl
    · rw [h0, beq_iff_eq]
      simp only [ByteArray.toList_eq, ByteArray.data_append, Array.toList_append, ByteArray.data_extract, Array.toList_extract, List.extract_eq_take_drop, List.drop_zero, Nat.sub_zero, List.append_assoc]
      congr 1
      have e1 : R.data.toList = R.data.toList.take k ++ R.data.toList.drop k := (List.take_append_drop _ _).symm
      have e2 : R.data.toList.drop k = 32 :: R.data.toList.drop (k + 1) := by
        have hg : R.data.toList[k]'(by rw [hRl]; exact hkl) = 32 := by rw [List.getElem?_eq_getElem (by rw [hRl]; exact hkl)] at h1; exact Option.some.inj h1
        rw [← hg]
        exact List.drop_eq_getElem_cons (by rw [hRl]; exact hkl)
      rw [← hRl, ← List.length_drop, List.take_length]
      exact e1.trans (by rw [e2]; rfl)

theorem law_no0 (ao : Option Addr) (m c : Nat) (ss : List ByteArray) (w : World) (hm : m ≤ maxLen) (hs : Src w ao m ss) (hz : ∀ s ∈ ss, s.size ≤ maxLen) (h : ¬ m + sumL ss m ≤ 1048576) :
    Calls Try.prog 3 #[.slice ao m c] w fun e w' => e = .returned (.bool true) ∧ Below w.heap.size w w' := by
  have H : Hid (Calls Try.prog 4 #[.slice ao m c] w fun e w' => e = .returned (.bool (decide (m + sumL ss m ≤ 1048576))) ∧ w' = w) := zz_any ao m c ss w hm hs hz
  have HN : Hid (¬ m + sumL ss m ≤ 1048576) := h
  clear hs hz h hm
  go_enter Try.func3, Try.ntmps3
  go_wp2_with (go_at_call 4; refine (H.out).mono ?_; rintro e w' ⟨rfl, hw'⟩; obtain rfl := hw'.symm; rw [decide_eq_false HN.out])
  go_ret
  exact ⟨rfl, Below.refl _ _⟩

theorem law_no1 (ao : Option Addr) (m c : Nat) (ss : List ByteArray) (w : World) (hm : m ≤ maxLen) (hs : Src w ao m ss) (hz : ∀ s ∈ ss, s.size ≤ maxLen) (h : m + sumL ss m ≤ 1048576) (h1 : ¬ m ≤ 65536) :
    Calls Try.prog 3 #[.slice ao m c] w fun e w' => e = .returned (.bool true) ∧ Below w.heap.size w w' := by
  have H : Hid (Calls Try.prog 4 #[.slice ao m c] w fun e w' => e = .returned (.bool (decide (m + sumL ss m ≤ 1048576))) ∧ w' = w) := zz_any ao m c ss w hm hs hz
  have HN : Hid (m + sumL ss m ≤ 1048576) := h
  clear hs hz h hm
  go_enter Try.func3, Try.ntmps3
  go_wp2_with (go_at_call 4; refine (H.out).mono ?_; rintro e w' ⟨rfl, hw'⟩; obtain rfl := hw'.symm; rw [decide_eq_true HN.out])
  go_ret
  exact ⟨rfl, Below.refl _ _⟩

theorem law_no2 (ao : Option Addr) (m c : Nat) (ss : List ByteArray) (w : World) (hs : Src w ao m ss) (hz : ∀ s ∈ ss, s.size ≤ maxLen) (h : m + sumL ss m ≤ 1048576) (h1 : m ≤ 65536) (h2 : ¬ 16 * m + sumL ss m ≤ 1048576) :
    Calls Try.prog 3 #[.slice ao m c] w fun e w' => e = .returned (.bool true) ∧ Below w.heap.size w w' := by
  have H : Hid (Calls Try.prog 4 #[.slice ao m c] w fun e w' => e = .returned (.bool (decide (m + sumL ss m ≤ 1048576))) ∧ w' = w) := zz_any ao m c ss w (by unfold maxLen; omega) hs hz
  obtain ⟨T, hT⟩ : ∃ T, T = 16 * m + sumL ss m := ⟨_, rfl⟩
  have H2 : Hid (Calls Try.prog 5 #[.slice ao m c] w fun e w' => e = .returned (.int .i64 (T : Int)) ∧ w' = w) := by rw [hT]; exact lines_any ao m c ss w h1 hs h
  have HN : Hid (m + sumL ss m ≤ 1048576) := h
  have hT1 : ¬ T ≤ 1048576 := by omega
  clear hs hz h h2 hT
  go_enter Try.func3, Try.ntmps3
  go_wp2_with (first | (go_at_call 4; refine (H.out).mono ?_; rintro e w' ⟨rfl, hw'⟩; obtain rfl := hw'.symm; rw [decide_eq_true HN.out]) | (go_at_call 5; refine (H2.out).mono ?_; rintro e w' ⟨rfl, hw'⟩; obtain rfl := hw'.symm))
  go_ret
  exact ⟨rfl, Below.refl _ _⟩

/-- No line at all. -/
theorem law_empty (ao : Option Addr) (c : Nat) (w : World) (hn : ao = none → c = 0) : Calls Try.prog 3 #[.slice ao 0 c] w fun e w' => e = .returned (.bool true) ∧ Below w.heap.size w w' := by
  have hs : Src w ao 0 [] := ⟨rfl, .inl rfl⟩
  have H : Hid (Calls Try.prog 4 #[.slice ao 0 c] w fun e w' => e = .returned (.bool true) ∧ w' = w) := zz_any ao 0 c [] w (Nat.zero_le _) hs (by simp)
  have H2 : Hid (Calls Try.prog 5 #[.slice ao 0 c] w fun e w' => e = .returned (.int .i64 0) ∧ w' = w) := lines_any ao 0 c [] w (by omega) hs (by simp [sumL])
  have H3 : Hid (Calls Try.prog 6 #[.slice ao 0 c] w fun e w' => (∃ ao' c', e = .returned (.slice ao' 0 c')) ∧ Below w.heap.size w w') := by
    cases ao with
    | none => obtain rfl := hn rfl
              exact (clone_nil w).mono fun e w' ⟨h1, h2⟩ => ⟨⟨_, _, h1⟩, by rw [h2]; exact Below.refl _ _⟩
    | some x => exact (clone_some x 0 c [] w (by omega) hs).mono fun e w' ⟨h1, h2⟩ => ⟨⟨_, _, h1⟩, h2.below⟩
  clear hs hn
  go_enter Try.func3, Try.ntmps3
  go_wp2_with (first | (go_at_call 4; refine (H.out).mono ?_; rintro e w' ⟨rfl, hw'⟩; obtain rfl := hw'.symm) | (go_at_call 5; refine (H2.out).mono ?_; rintro e w' ⟨rfl, hw'⟩; obtain rfl := hw'.symm) | (go_at_call 7; refine (reply_empty _ _ _).mono ?_; rintro e w' ⟨rfl, hw'⟩; obtain rfl := hw'.symm))
  refine (H3.out).mono ?_
  rintro e w1 ⟨⟨ao', c', rfl⟩, hb⟩
  have HB : Hid (Below w.heap.size w w1) := hb
  clear hb
  go_wp2_with (go_at_call 7; refine (reply_empty _ _ _).mono ?_; rintro e w' ⟨rfl, hw'⟩; obtain rfl := hw'.symm)
  go_ret
  exact ⟨rfl, HB.out⟩

/-- No error line. -/
theorem law_not (x : Addr) (m c : Nat) (ss : List ByteArray) (s : ByteArray) (w : World) (hs : Src w (some x) m ss) (hz : ∀ s ∈ ss, s.size ≤ maxLen) (h : 16 * m + sumL ss m ≤ 1048576) (h0 : 0 < m) (hs0 : ss[0]? = some s)
    (hne : s.size < 4 ∨ ((s.extract 0 4).toList == [69, 82, 82, 32]) = false) :
    Calls Try.prog 3 #[.slice (some x) m c] w fun e w' => e = .returned (.bool true) ∧ Below w.heap.size w w' := by
  have H : Hid (Calls Try.prog 4 #[.slice (some x) m c] w fun e w' => e = .returned (.bool true) ∧ w' = w) := by
    have := zz_any (some x) m c ss w (by unfold maxLen; omega) hs hz
    rwa [decide_eq_true (by omega)] at this
  obtain ⟨T, hT⟩ : ∃ T, T = 16 * m + sumL ss m := ⟨_, rfl⟩
  have H2 : Hid (Calls Try.prog 5 #[.slice (some x) m c] w fun e w' => e = .returned (.int .i64 (T : Int)) ∧ w' = w) := by rw [hT]; exact lines_any (some x) m c ss w (by omega) hs (by omega)
  have H3 : Hid (Calls Try.prog 6 #[.slice (some x) m c] w fun e w' => e = .returned (.slice (some ⟨w.heap.size, 0, none⟩) m m) ∧ w'.cell? ⟨w.heap.size, 0, none⟩ = some (.string s) ∧ Below w.heap.size w w') := by
    refine (clone_some x m c ss w (by omega) hs).mono fun e w' ⟨h1, h2⟩ => ⟨h1, ?_, h2.below⟩
    rw [(h2.row (i := 0) rfl).cell 0 (by rw [strsV_length, hs.len]; exact h0), strsV_get _ _ (by rw [hs.len]; exact h0), List.getD, hs0]
    rfl
  have H8 : Hid (∀ w, Calls Try.prog 8 #[.string s] w fun e w' => e = .returned (.bool false) ∧ w' = w) := by
    intro w
    by_cases h4 : 4 ≤ s.size
    · have := hasErr_long s w h4
      rwa [show ((s.extract 0 4).toList == [69, 82, 82, 32]) = false by rcases hne with h | h; omega; exact h] at this
    · exact hasErr_short s w (by omega)
  have HNE : Hid (s.size < 4 ∨ ((s.extract 0 4).toList == [69, 82, 82, 32]) = false) := hne
  have hT1 : T ≤ 1048576 := by omega
  have hm : m ≤ 65536 := by omega
  have d : ((m : Int) == 0) = false := beq_eq_false_iff_ne.2 (by omega)
  have d2 : (0 : Int) < (m : Int) := by omega
  clear hs hz h hne hs0 hT
  go_enter Try.func3, Try.ntmps3
  go_wp2_with (first | (go_at_call 4; refine (H.out).mono ?_; rintro e w' ⟨rfl, hw'⟩; obtain rfl := hw'.symm) | (go_at_call 5; refine (H2.out).mono ?_; rintro e w' ⟨rfl, hw'⟩; obtain rfl := hw'.symm))
  refine (H3.out).mono ?_
  rintro e w1 ⟨rfl, hcell, hb⟩
  have HB : Hid (Below w.heap.size w w1) := hb
  clear hb
  obtain ⟨G, hG⟩ : ∃ G, G = w.heap.size := ⟨_, rfl⟩
  rw [← hG] at hcell ⊢
  clear hG
  go_wp2_with (first | (go_at_call 7; refine (reply_no _ _ _ _ s _ (by omega) hcell HNE.out).mono ?_; rintro e w' ⟨rfl, hw'⟩; obtain rfl := hw'.symm) | (go_at_call 8; refine (H8.out _).mono ?_; rintro e w' ⟨rfl, hw'⟩; obtain rfl := hw'.symm))
  go_ret
  exact ⟨rfl, HB.out⟩

theorem below_drewN {B : Nat} {a w : World} (h : Below B a w) (n : Nat) : Below B a (w.drewN n) := ⟨h.os, h.tape, h.output, h.size, h.block⟩

set_option maxHeartbeats 1000000 in
/-- An error line. -/
theorem law_yes (x : Addr) (m c : Nat) (ss : List ByteArray) (s : ByteArray) (w : World) (hs : Src w (some x) m ss) (hz : ∀ s ∈ ss, s.size ≤ maxLen) (h : 16 * m + sumL ss m ≤ 1048576) (h0 : 0 < m) (hs0 : ss[0]? = some s)
    (h4 : 4 ≤ s.size) (hp : ((s.extract 0 4).toList == [69, 82, 82, 32]) = true) (hsz : s.size ≤ 1048576) :
    Calls Try.prog 3 #[.slice (some x) m c] w fun e w' => e = .returned (.bool true) ∧ Below w.heap.size w w' := by
  have H : Hid (Calls Try.prog 4 #[.slice (some x) m c] w fun e w' => e = .returned (.bool true) ∧ w' = w) := by
    have := zz_any (some x) m c ss w (by unfold maxLen; omega) hs hz
    rwa [decide_eq_true (by omega)] at this
  obtain ⟨T, hT⟩ : ∃ T, T = 16 * m + sumL ss m := ⟨_, rfl⟩
  have H2 : Hid (Calls Try.prog 5 #[.slice (some x) m c] w fun e w' => e = .returned (.int .i64 (T : Int)) ∧ w' = w) := by rw [hT]; exact lines_any (some x) m c ss w (by omega) hs (by omega)
  have H3 : Hid (Calls Try.prog 6 #[.slice (some x) m c] w fun e w' => e = .returned (.slice (some ⟨w.heap.size, 0, none⟩) m m) ∧ w'.cell? ⟨w.heap.size, 0, none⟩ = some (.string s) ∧ Below w.heap.size w w' ∧ w.heap.size < w'.heap.size) := by
    refine (clone_some x m c ss w (by omega) hs).mono fun e w' ⟨h1, h2⟩ => ⟨h1, ?_, h2.below, (h2.row (i := 0) rfl).lt⟩
    rw [(h2.row (i := 0) rfl).cell 0 (by rw [strsV_length, hs.len]; exact h0), strsV_get _ _ (by rw [hs.len]; exact h0), List.getD, hs0]
    rfl
  have H8 : Hid (∀ w, Calls Try.prog 8 #[.string s] w fun e w' => e = .returned (.bool true) ∧ w' = w) := by
    intro w
    have := hasErr_long s w h4
    rwa [hp] at this
  obtain ⟨code, text, ⟨g1, g2, g3, g4⟩, hcut⟩ := good_cut s hsz h4 hp
  have H7 : Hid (∀ b w, w.cell? ⟨b, 0, none⟩ = some (.string s) → b < w.heap.size → Calls Try.prog 7 #[.slice (some ⟨b, 0, none⟩) m m] w fun e w' => ∃ g, e = .returned (.pointer (some ⟨g, 0, none⟩)) ∧ w'.cell? ⟨b, 0, none⟩ = some (.string s) ∧
      w'.cell? ⟨g, 0, none⟩ = some (.string code) ∧ w'.cell? ⟨g, 1, none⟩ = some (.string text) ∧ ∀ B a, B ≤ w.heap.size → Below B a w → Below B a w') := by
    intro b w hc hb
    refine (reply_yes b 0 m m s code text w h0 hc h4 hp (hcut w)).mono ?_
    rintro e w' ⟨rfl, n, rfl⟩
    have hh : ((w.drewN n).alloc (.cells #[.string code, .string text] 31)).heap[w.heap.size]? = some (.cells #[.string code, .string text] 31 (0, 0)) := heap_alloc_new (w.drewN n) _
    refine ⟨_, rfl, ?_, ?_, ?_, fun B a hB hbel => (below_drewN hbel n).alloc hB _⟩
    · exact (World.cell?_of_block (w := w) (Below.heap_alloc (w.drewN n) _ _ hb)).trans hc
    · rw [cell_of_row _ _ _ _ _ _ hh]; rfl
    · rw [cell_of_row _ _ _ _ _ _ hh]; rfl
  have H9 : Hid (∀ w, Calls Try.prog 9 #[.string code, .int .u8 32] w fun e w' => e = .returned (.bool false) ∧ w' = w) := fun w => hasByte_no code w (by omega) g1
  have hT1 : T ≤ 1048576 := by omega
  have hm : m ≤ 65536 := by omega
  have d : ((m : Int) == 0) = false := beq_eq_false_iff_ne.2 (by omega)
  have d2 : (0 : Int) < (m : Int) := by omega
  clear hs hz h hs0 hT g1 hcut hp
  go_enter Try.func3, Try.ntmps3
  go_wp2_with (first | (go_at_call 4; refine (H.out).mono ?_; rintro e w' ⟨rfl, hw'⟩; obtain rfl := hw'.symm) | (go_at_call 5; refine (H2.out).mono ?_; rintro e w' ⟨rfl, hw'⟩; obtain rfl := hw'.symm))
  refine (H3.out).mono ?_
  rintro e w1 ⟨rfl, hcell, hb, hlt⟩
  have HB : Hid (Below w.heap.size w w1) := hb
  have HLT : Hid (w.heap.size < w1.heap.size) := hlt
  clear hb hlt
  obtain ⟨G, hG⟩ : ∃ G, G = w.heap.size := ⟨_, rfl⟩
  have HGe : Hid (G = w.heap.size) := hG
  rw [← hG] at hcell ⊢
  clear hG
  go_wp2_with fail
  refine (H7.out G w1 hcell (by rw [HGe.out]; exact HLT.out)).mono ?_
  rintro e w2 ⟨g, rfl, c0, c1, c2, hbel⟩
  have HB2 : Hid (Below G w w2) := hbel G w (by rw [HGe.out]; exact Nat.le_of_lt HLT.out) (by rw [HGe.out]; exact HB.out)
  clear hbel hcell HB
  rcases g4 with g4 | ⟨g4, g5, g6⟩
  · go_wp2_with (first | (go_at_call 8; refine (H8.out _).mono ?_; rintro e w' ⟨rfl, hw'⟩; obtain rfl := hw'.symm) | (go_at_call 9; refine (H9.out _).mono ?_; rintro e w' ⟨rfl, hw'⟩; obtain rfl := hw'.symm))
    go_quiet (fail)
    go_wp2
    go_ret
    exact ⟨rfl, below_drewN (by rw [← HGe.out]; exact HB2.out) _⟩
  · subst g5
    go_wp2_with (first | (go_at_call 8; refine (H8.out _).mono ?_; rintro e w' ⟨rfl, hw'⟩; obtain rfl := hw'.symm) | (go_at_call 9; refine (H9.out _).mono ?_; rintro e w' ⟨rfl, hw'⟩; obtain rfl := hw'.symm))
    go_quiet (fail)
    go_wp2
    go_ret
    exact ⟨rfl, below_drewN (by rw [← HGe.out]; exact HB2.out) _⟩

/-- THE LAW, at whatever slice of strings. -/
theorem law_any (ao : Option Addr) (m c : Nat) (ss : List ByteArray) (w : World) (hm : m ≤ maxLen) (hs : Src w ao m ss) (hz : ∀ s ∈ ss, s.size ≤ maxLen) (hn : ao = none → m = 0 ∧ c = 0) :
    Calls Try.prog 3 #[.slice ao m c] w fun e w' => e = .returned (.bool true) ∧ Below w.heap.size w w' := by
  by_cases h0 : m + sumL ss m ≤ 1048576
  · by_cases h1 : m ≤ 65536
    · by_cases h2 : 16 * m + sumL ss m ≤ 1048576
      · by_cases h3 : m = 0
        · subst h3
          exact law_empty ao c w (fun h => (hn h).2)
        · cases ao with
          | none => exact absurd (hn rfl).1 h3
          | some x =>
            have hl := hs.len
            have hlt : 0 < ss.length := by omega
            have hs0 : ss[0]? = some ss[0] := List.getElem?_eq_getElem hlt
            have hsz : ss[0].size ≤ 1048576 := by
              have h5 := sumL_mono ss 1 m (by omega)
              have h6 : sumL ss 1 = ss[0].size := by simp [sumL, List.getD, hs0]
              omega
            by_cases h4 : 4 ≤ ss[0].size
            · by_cases hp : ((ss[0].extract 0 4).toList == [69, 82, 82, 32]) = true
              · exact law_yes x m c ss ss[0] w hs hz h2 (by omega) hs0 h4 hp hsz
              · exact law_not x m c ss ss[0] w hs hz h2 (by omega) hs0 (.inr (by simpa using hp))
            · exact law_not x m c ss ss[0] w hs hz h2 (by omega) hs0 (.inl (by omega))
      · exact law_no2 ao m c ss w hs hz h0 h1 h2
    · exact law_no1 ao m c ss w hm hs hz h0 h1
  · exact law_no0 ao m c ss w hm hs hz h0
end Go.Proofs.Qxb6600775a
