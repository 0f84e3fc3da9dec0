/-
  SEAT b6600069a: the helpers' contracts, each in one form for nil and for what is not nil.
-/
import Derived.Test.Qxb6600069aSer
namespace Go.Proofs.Qxb6600069a
open Go.RowKit Plain

/-- The cells of a slice that is appended: none, or in a block other than g. -/
def Cells (w : World) (g : Nat) (ao : Option Addr) (m : Nat) (zs : List Int) : Prop :=
  m = 0 ∨ ∃ b off, ao = some ⟨b, off, none⟩ ∧ b ≠ g ∧ b < w.heap.size ∧ ∀ j, j < m → w.cell? ⟨b, off + j, none⟩ = some (.int .u8 (zs.getD j 0))

theorem appendBytes_any (g n cap : Nat) (xs : List Value) (ao : Option Addr) (m c : Nat) (zs : List Int) (w : World) (hn : xs.length = n) (hr : (Rw.mk 5 g cap xs).In w) (hz : zs.length = m)
    (hc : Cells w g ao m zs) (hbd : n + m ≤ 1099511627776) :
    Calls Try.prog 16 #[.slice (some ⟨g, 0, none⟩) n cap, .slice ao m c] w fun e w' =>
      ∃ g' cap', e = .returned (.slice (some ⟨g', 0, none⟩) (n + m) cap') ∧ (Rw.mk 5 g' cap' (xs ++ bytesV zs)).In w' ∧ Upd w w' g g' := by
  rcases hc with rfl | ⟨b, off, rfl, h1, h2, h3⟩
  · refine (appendBytes_none _ ao c w).mono ?_
    rintro e w' ⟨rfl, rfl⟩
    have hz0 : zs = [] := List.eq_nil_of_length_eq_zero hz
    subst hz0
    exact ⟨g, cap, rfl, by simpa [bytesV] using hr, Upd.refl _ _⟩
  · refine (appendBytes_some g n cap xs b off m c zs w hn hr h1 h2 hbd (Nat.le_of_eq hz.symm) h3).mono ?_
    rintro e w' ⟨g', cap', rfl, hR, hU⟩
    rw [← hz, List.take_length] at hR
    exact ⟨g', cap', by rw [← hz], hR, hU⟩

/-- cloneBytesB1, nil or not: the answer lies in new memory. -/
theorem clone_any (ao : Option Addr) (m c : Nat) (zs : List Int) (w : World) (hbd : m ≤ 1099511627776) (hs : Src w (.slice ao m c) m zs) (hnil : ao = none → m = 0 ∧ c = 0) :
    Calls Try.prog 14 #[.slice ao m c] w fun e w' => ∃ ao' c', e = .returned (.slice ao' m c') ∧ Src w' (.slice ao' m c') m zs ∧ Below w.heap.size w w' := by
  cases ao with
  | none =>
    obtain ⟨rfl, rfl⟩ := hnil rfl
    refine (cloneBytes_nil w).mono ?_
    rintro e w' ⟨rfl, rfl⟩
    exact ⟨none, 0, rfl, hs, Below.refl _ _⟩
  | some x =>
    refine (cloneBytes_some x m c zs w hbd hs).mono ?_
    rintro e w' ⟨g', cap', rfl, hR, hg, hB⟩
    obtain ⟨_, _, _, hz, _⟩ := hs
    refine ⟨_, _, rfl, ⟨_, _, rfl, hz, .inr ⟨g', 0, rfl, hR.lt, fun j hj => ?_⟩⟩, hB⟩
    rw [Nat.zero_add, hR.cell j (by rw [bytesV_length]; omega), bytesV_get zs j (by omega)]

/-- serializeValuesB1, nil or not. -/
theorem ser_any (ao : Option Addr) (m c : Nat) (zs : List Int) (w : World) (hm : m ≤ 16384) (hs : Src w (.slice ao m c) m zs) (hz : ∀ j, 0 ≤ zs.getD j 0 ∧ zs.getD j 0 ≤ 255) :
    Calls Try.prog 15 #[.slice ao m c] w fun e w' => ∃ gb cb gs cs ge ce : Nat,
      e = .returned (.tuple #[.slice (some ⟨gb, 0, none⟩) (gen true [] (zs.map (· % 8))).length cb, .slice (some ⟨gs, 0, none⟩) (stR true 0 [] (zs.map (· % 8))).length cs, .slice (some ⟨ge, 0, none⟩) (enR true 0 [] (zs.map (· % 8))).length ce]) ∧
      Own w.heap.size w w' [⟨5, gb, cb, bytesV (gen true [] (zs.map (· % 8)))⟩, ⟨3, gs, cs, natsV (stR true 0 [] (zs.map (· % 8)))⟩, ⟨3, ge, ce, natsV (enR true 0 [] (zs.map (· % 8)))⟩] := by
  obtain ⟨ao', c', hv, hzl, hor⟩ := hs
  simp only [Value.slice.injEq, true_and] at hv
  obtain ⟨rfl, rfl⟩ := hv
  rcases hor with rfl | ⟨b, off, rfl, hb, hc⟩
  · have hz0 : zs = [] := List.eq_nil_of_length_eq_zero hzl
    subst hz0
    refine (ser_none ao c w).mono ?_
    rintro e w' ⟨gb, cb, gs, cs, ge, ce, rfl, hO⟩
    exact ⟨gb, cb, gs, cs, ge, ce, rfl, hO⟩
  · exact ser_some b off m c zs w hm hzl hb hc hz

theorem Src.later {w w' : World} {B : Nat} {v : Value} {m : Nat} {zs : List Int} (h : Src w v m zs) (hB : Below B w w') (hb : w.heap.size ≤ B) : Src w' v m zs := by
  obtain ⟨ao, c, hv, hz, hor⟩ := h
  rcases hor with h0 | ⟨b, off, h1, h2, h3⟩
  · exact ⟨ao, c, hv, hz, .inl h0⟩
  exact ⟨ao, c, hv, hz, .inr ⟨b, off, h1, Nat.lt_of_lt_of_le h2 hB.size, fun j hj => (hB.cell (p := ⟨b, off + j, none⟩) (Nat.lt_of_lt_of_le h2 hb)).trans (h3 j hj)⟩⟩

/-- A row of the call that is new behind a 'make'. -/
theorem Own.make {B : Nat} {w0 w w' : World} {L : List Rw} (h : Own B w0 w L) (hg : w.grownBy w' none) {r : Rw} (hr : r.In w') (hrg : r.g = w.heap.size) : Own B w0 w' (r :: L) := by
  refine ⟨fun q hq => ?_, ?_, h.below.grown hg h.base (fun k hk => by simp at hk), Nat.le_trans h.base hg.size⟩
  · rcases List.mem_cons.1 hq with rfl | hq
    · exact ⟨hr, by rw [hrg]; exact h.base⟩
    · have hlt := (h.rows q hq).1.lt
      obtain ⟨⟨h1, h2, cur, hc, h3⟩, h4⟩ := h.rows q hq
      exact ⟨⟨h1, h2, cur, (hg.block q.g hlt (by simp)).trans hc, h3⟩, h4⟩
  · rw [List.map_cons, List.nodup_cons]
    refine ⟨fun hm => ?_, h.apart⟩
    obtain ⟨q, hq, he⟩ := List.mem_map.1 hm
    have := (h.rows q hq).1.lt
    omega

theorem isDelim_any (c : Int) (w : World) : Calls Try.prog 13 #[.int .u8 c] w fun e w' => e = .returned (.bool (isDl c)) ∧ w' = w := by
  obtain ⟨d, hd⟩ : ∃ d, d = isDl c := ⟨_, rfl⟩
  rw [← hd]
  unfold isDl at hd
  cases e1 : c == 44
  case true =>
    simp only [e1, Bool.true_or] at hd
    subst hd
    go_enter Try.func13, Try.ntmps13
    go_wp2
    go_ret
    exact ⟨rfl, rfl⟩
  case false =>
  cases e2 : c == 93
  case true =>
    simp only [e1, e2, Bool.true_or, Bool.or_true] at hd
    subst hd
    go_enter Try.func13, Try.ntmps13
    go_wp2
    go_ret
    exact ⟨rfl, rfl⟩
  case false =>
  cases e3 : c == 125
  case true =>
    simp only [e1, e2, e3, Bool.true_or, Bool.or_true] at hd
    subst hd
    go_enter Try.func13, Try.ntmps13
    go_wp2
    go_ret
    exact ⟨rfl, rfl⟩
  case false =>
  cases e4 : c == 32
  case true =>
    simp only [e1, e2, e3, e4, Bool.true_or, Bool.or_true] at hd
    subst hd
    go_enter Try.func13, Try.ntmps13
    go_wp2
    go_ret
    exact ⟨rfl, rfl⟩
  case false =>
  cases e5 : c == 9
  case true =>
    simp only [e1, e2, e3, e4, e5, Bool.true_or, Bool.or_true] at hd
    subst hd
    go_enter Try.func13, Try.ntmps13
    go_wp2
    go_ret
    exact ⟨rfl, rfl⟩
  case false =>
  cases e6 : c == 10
  case true =>
    simp only [e1, e2, e3, e4, e5, e6, Bool.true_or, Bool.or_true] at hd
    subst hd
    go_enter Try.func13, Try.ntmps13
    go_wp2
    go_ret
    exact ⟨rfl, rfl⟩
  case false =>
  cases e7 : c == 13
  case true =>
    simp only [e1, e2, e3, e4, e5, e6, e7, Bool.or_true] at hd
    subst hd
    go_enter Try.func13, Try.ntmps13
    go_wp2
    go_ret
    exact ⟨rfl, rfl⟩
  case false =>
    simp only [e1, e2, e3, e4, e5, e6, e7, Bool.or_false] at hd
    subst hd
    go_enter Try.func13, Try.ntmps13
    go_wp2
    go_ret
    exact ⟨rfl, rfl⟩

/-- The bound on the total length. -/
theorem bytes12_yes (a0 a1 a2 : Option Addr) (l0 c0 l1 c1 l2 c2 : Nat) (w : World) (h : l0 + l1 + l2 ≤ 1048576) :
    Calls Try.prog 12 #[.slice a0 l0 c0, .slice a1 l1 c1, .slice a2 l2 c2] w fun e w' => e = .returned (.bool true) ∧ w' = w := by
  go_enter Try.func12, Try.ntmps12
  go_wp2
  go_ret
  exact ⟨rfl, rfl⟩
theorem bytes12_no (a0 a1 a2 : Option Addr) (l0 c0 l1 c1 l2 c2 : Nat) (w : World) (h : ¬ l0 + l1 + l2 ≤ 1048576) :
    Calls Try.prog 12 #[.slice a0 l0 c0, .slice a1 l1 c1, .slice a2 l2 c2] w fun e w' => e = .returned (.bool false) ∧ w' = w := by
  go_enter Try.func12, Try.ntmps12
  go_wp2
  all_goals (go_ret; exact ⟨rfl, rfl⟩)
theorem bytes18_yes (a0 : Option Addr) (l0 c0 : Nat) (w : World) (h : l0 ≤ 1048576) :
    Calls Try.prog 18 #[.slice a0 l0 c0] w fun e w' => e = .returned (.bool true) ∧ w' = w := by
  go_enter Try.func18, Try.ntmps18
  go_wp2
  go_ret
  exact ⟨rfl, rfl⟩
theorem bytes18_no (a0 : Option Addr) (l0 c0 : Nat) (w : World) (h : ¬ l0 ≤ 1048576) :
    Calls Try.prog 18 #[.slice a0 l0 c0] w fun e w' => e = .returned (.bool false) ∧ w' = w := by
  go_enter Try.func18, Try.ntmps18
  go_wp2
  all_goals (go_ret; exact ⟨rfl, rfl⟩)
end Go.Proofs.Qxb6600069a
