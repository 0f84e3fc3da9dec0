/-
  SEAT b6600890a: toPatterns: a slice of patterns is laid anew, element for element.
-/
import Derived.Test.Qxb6600890aImp
import Derived.OpenShut
import Derived.Deep.RegionHeld3
namespace Go.Proofs.Qxb6600890a
open Go.RowKit

theorem info44 : (Try.prog.info? 44).map (fun i => (i.zero, i.size, i.bytes)) = some (some (.agg #[.bool false, .string ⟨#[]⟩, .bool false]), 3, 32) := by kernel_rfl

/-- A slice of patterns: three cells an element. -/
def Src3 (w : World) (ao : Option Addr) (m : Nat) (f : Nat → IP) : Prop :=
  m = 0 ∨ ∃ b off, ao = some ⟨b, off, none⟩ ∧ b < w.heap.size ∧ ∀ j, j < m → w.cell? ⟨b, off + j * 3, none⟩ = some (.bool (f j).s) ∧ w.cell? ⟨b, off + j * 3 + 1, none⟩ = some (.string (f j).b) ∧ w.cell? ⟨b, off + j * 3 + 2, none⟩ = some (.bool (f j).t)
theorem Src3.kept {w w' : World} {ao : Option Addr} {m : Nat} {f : Nat → IP} (h : Src3 w ao m f) (hg : Grew w w') : Src3 w' ao m f := by
  rcases h with h | ⟨b, off, h1, h2, h3⟩
  · exact .inl h
  · exact .inr ⟨b, off, h1, Nat.lt_of_lt_of_le h2 hg.size, fun j hj => ⟨hg.cell (h3 j hj).1, hg.cell (h3 j hj).2.1, hg.cell (h3 j hj).2.2⟩⟩

/-- The first k elements are laid. -/
def Laid (xs : List Value) (f : Nat → IP) (k : Nat) : Prop :=
  ∀ j, j < k → xs[j * 3]? = some (.bool (f j).s) ∧ xs[j * 3 + 1]? = some (.string (f j).b) ∧ xs[j * 3 + 2]? = some (.bool (f j).t)
theorem Laid.step {xs : List Value} {f : Nat → IP} {k : Nat} (h : Laid xs f k) (hl : k * 3 + 2 < xs.length) :
    Laid (((xs.set (k * 3) (.bool (f k).s)).set (k * 3 + 1) (.string (f k).b)).set (k * 3 + 2) (.bool (f k).t)) f (k + 1) := by
  intro j hj
  simp only [List.getElem?_set, List.length_set]
  by_cases hjk : j = k
  · subst hjk
    refine ⟨?_, ?_, ?_⟩
    · rw [if_neg (by omega), if_neg (by omega), if_pos rfl, if_pos (by omega)]
    · rw [if_neg (by omega), if_pos rfl, if_pos (by omega)]
    · rw [if_pos rfl, if_pos hl]
  · obtain ⟨h1, h2, h3⟩ := h j (by omega)
    refine ⟨?_, ?_, ?_⟩
    · rw [if_neg (by omega), if_neg (by omega), if_neg (by omega)]; exact h1
    · rw [if_neg (by omega), if_neg (by omega), if_neg (by omega)]; exact h2
    · rw [if_neg (by omega), if_neg (by omega), if_neg (by omega)]; exact h3

theorem keep3 {w : World} {G b o j0 j1 j2 : Nat} {v v0 v1 v2 : Value} {ob : Obj} (hne : b ≠ G) (hc : w.cell? ⟨b, o, none⟩ = some v) :
    ((((w.setCell ⟨G, j0, none⟩ v0).setCell ⟨G, j1, none⟩ v1).setCell ⟨G, j2, none⟩ v2).alloc ob).drew.cell? ⟨b, o, none⟩ = some v := by
  have hlt : b < w.heap.size := World.block_lt_of_cell? w ⟨b, o, none⟩ hc
  show ((((w.setCell ⟨G, j0, none⟩ v0).setCell ⟨G, j1, none⟩ v1).setCell ⟨G, j2, none⟩ v2).alloc ob).cell? ⟨b, o, none⟩ = some v
  have hn : ∀ j : Nat, (⟨G, j, none⟩ : Addr) ≠ ⟨b, o, none⟩ := fun j h => hne (by simp only [Addr.mk.injEq] at h; exact h.1.symm)
  rw [World.cell?_alloc_lt _ _ _ (by simpa [World.setCell] using hlt), World.cell?_setCell_other _ _ _ _ (hn _), World.cell?_setCell_other _ _ _ _ (hn _), World.cell?_setCell_other _ _ _ _ (hn _)]
  exact hc

set_option maxHeartbeats 1000000 in
theorem pats_any (ao : Option Addr) (m c : Nat) (f : Nat → IP) (w : World) (hm : m ≤ 65536) (hs : Src3 w ao m f) :
    Calls Try.prog 26 #[.slice ao m c] w fun e w' => e = .returned (.slice (some ⟨w.heap.size, 0, none⟩) m m) ∧ Src3 w' (some ⟨w.heap.size, 0, none⟩) m f ∧ Grew w w' := by
  obtain ⟨i0, hi, hz0, hz1, hz2⟩ := info_parts info44
  have HS : Hid (Src3 w ao m f) := hs
  clear hs
  go_enter Try.func26, Try.ntmps26
  go_wp2_with (at_make; refine wpList_make_full _ rfl _ _ 34 rfl 0 44 i0 (.agg #[.bool false, .string ⟨#[]⟩, .bool false]) 3 Try.underlying34 hi hz0 hz1 _ _ _ _ m rfl rfl rfl rfl (by rw [hz2]; omega) (by simp only [maxLen]; omega) (Nat.zero_le _) ?_)
  intro w1 hown hgr
  obtain ⟨xs0, hxs0⟩ : ∃ xs, xs = (madeCells #[.bool false, .string ⟨#[]⟩, .bool false] (m * 3)).toList := ⟨_, rfl⟩
  rw [← hxs0] at hown
  clear hxs0
  obtain ⟨G, hG⟩ : ∃ G, G = w.heap.size := ⟨_, rfl⟩
  have HGe : Hid (G = w.heap.size) := hG
  rw [← hG] at hown ⊢
  have HO1 : Hid (w1.ownsRow 0 44 3 (.slice (some ⟨G, 0, none⟩) m m) m xs0) := hown
  have HB1 : Hid (Grew w w1) := (Below.refl _ _).grown hgr (Nat.le_refl _) (fun k hk => by simp at hk)
  clear hown hgr hG
  go_wp2_with fail
  go_loopg [4] m (fun gk i wr => ∃ (k : Nat) (xs : List Value), Hid (gk = m - k) ∧ k ≤ m ∧ i = .int .i64 k ∧ Hid (wr.ownsRow 0 44 3 (.slice (some ⟨G, 0, none⟩) m m) m xs ∧ Laid xs f k ∧ Grew w wr))
  case atStart => exact ⟨0, xs0, rfl, Nat.zero_le _, rfl, HO1.out, fun j hj => by omega, HB1.out⟩
  case round =>
    obtain ⟨k, xs, HG, hk, rfl, HO⟩ := hrel
    by_cases hlt : k < m
    · rcases HS.out with h0 | ⟨b, off, hb0, hb, hc⟩
      · omega
      · subst hb0
        obtain ⟨hc0, hc1, hc2⟩ := hc k hlt
        have c0 := HO.out.2.2.cell hc0
        have c1 := HO.out.2.2.cell hc1
        have c2 := HO.out.2.2.cell hc2
        obtain ⟨p, hp⟩ : ∃ p, p = (f k).s := ⟨_, rfl⟩
        obtain ⟨q, hq⟩ : ∃ q, q = (f k).b := ⟨_, rfl⟩
        obtain ⟨r, hr⟩ : ∃ r, r = (f k).t := ⟨_, rfl⟩
        rw [← hp] at c0
        rw [← hq] at c1
        rw [← hr] at c2
        have HP : Hid (p = (f k).s ∧ q = (f k).b ∧ r = (f k).t) := ⟨hp, hq, hr⟩
        have hbG : b ≠ G := by rw [HGe.out]; omega
        clear hc hc0 hc1 hc2 hp hq hr
        have hl3 : k * 3 + 2 < m * 3 := by omega
        obtain ⟨u0, hu0⟩ : ∃ u, wr.cell? ⟨G, k * 3, none⟩ = some u := ⟨_, (HO.out.1.cellAt (k * 3) (by omega)).trans (List.getElem?_eq_getElem (by rw [HO.out.1.1]; omega))⟩
        obtain ⟨u1, hu1⟩ : ∃ u, wr.cell? ⟨G, k * 3 + 1, none⟩ = some u := ⟨_, (HO.out.1.cellAt (k * 3 + 1) (by omega)).trans (List.getElem?_eq_getElem (by rw [HO.out.1.1]; omega))⟩
        obtain ⟨u2, hu2⟩ : ∃ u, wr.cell? ⟨G, k * 3 + 2, none⟩ = some u := ⟨_, (HO.out.1.cellAt (k * 3 + 2) (by omega)).trans (List.getElem?_eq_getElem (by rw [HO.out.1.1]; omega))⟩
        have hGlt : G < wr.heap.size := (HO.out.1.lt G rfl).2
        have hf0 : wr.frozen? ⟨G, k * 3, none⟩ = false := HO.out.1.frozenAt _
        have hf1 : wr.frozen? ⟨G, k * 3 + 1, none⟩ = false := HO.out.1.frozenAt _
        have hf2 : wr.frozen? ⟨G, k * 3 + 2, none⟩ = false := HO.out.1.frozenAt _
        go_wp2_with fail
        go_region_held3 (fun w' => w'.cell? ⟨b, off + k * 3, none⟩ = some (.bool p) ∧ w'.cell? ⟨b, off + k * 3 + 1, none⟩ = some (.string q) ∧ w'.cell? ⟨b, off + k * 3 + 2, none⟩ = some (.bool r)) (first | (with_reducible exact ⟨keep3 hbG c0, keep3 hbG c1, keep3 hbG c2⟩) | go_keep) ((go_at_call 32; refine (zzimp_any _ _ _ _).mono ?_; rintro e w' ⟨rfl, hw'⟩; subst hw'; unfold patI))
        obtain ⟨wn, hwn⟩ : ∃ wn, wn = ((((wr.setCell ⟨G, k * 3, none⟩ (.bool p)).setCell ⟨G, k * 3 + 1, none⟩ (.string q)).setCell ⟨G, k * 3 + 2, none⟩ (.bool r)).alloc (.cells #[.bool p, .string q, .bool r] 44)).drew := ⟨_, rfl⟩
        have HON : Hid (∃ xs, wn.ownsRow 0 44 3 (.slice (some ⟨G, 0, none⟩) m m) m xs ∧ Laid xs f (k + 1) ∧ Grew w wn) := by
          have s1 := (HO.out.1.stored (k * 3) (.bool p)).1
          have s2 := (s1.stored (k * 3 + 1) (.string q)).1
          have s3 := (s2.stored (k * 3 + 2) (.bool r)).1
          have s4 := (s3.alloc (.cells #[.bool p, .string q, .bool r] 44)).drew
          have hGw : w.heap.size ≤ G := by rw [HGe.out]; exact Nat.le_refl _
          have hL := HO.out.2.1.step (by rw [HO.out.1.1]; omega)
          obtain ⟨hp, hq, hr⟩ := HP.out
          rw [← hp, ← hq, ← hr] at hL
          rw [hwn]
          refine ⟨_, s4, hL, ?_⟩
          have b3 := ((Below.setCell (p := ⟨G, k * 3, none⟩) HO.out.2.2 hGw (.bool p)).setCell (p := ⟨G, k * 3 + 1, none⟩) hGw (.string q)).setCell (p := ⟨G, k * 3 + 2, none⟩) hGw (.bool r)
          exact (b3.alloc (by have := b3.size; exact this) _).drew
        rw [← hwn]
        clear hwn hbG hl3 hu0 hu1 hu2 hGlt hf0 hf1 hf2 c0 c1 c2 HO
        rename_i hHeld
        clear hHeld
        go_wp2
        go_roundg (m - (k + 1))
        case measure => have := HG.out; omega
        case rel =>
          obtain ⟨xs', hx⟩ := HON.out
          exact ⟨k + 1, xs', rfl, by omega, by go_num, hx⟩
    · obtain rfl : k = m := by omega
      go_wp2
      go_ret
      have hg := HGe.out
      obtain ⟨h1, h2, h3⟩ := HO.out
      refine ⟨by rw [← hg]; rfl, ?_, h3⟩
      rw [← hg]
      by_cases h0 : k = 0
      · exact .inl h0
      · refine .inr ⟨G, 0, rfl, (h1.lt G rfl).2, fun j hj => ?_⟩
        obtain ⟨l1, l2, l3⟩ := h2 j hj
        simp only [Nat.zero_add]
        exact ⟨(h1.cellAt (j * 3) (by omega)).trans l1, (h1.cellAt (j * 3 + 1) (by omega)).trans l2, (h1.cellAt (j * 3 + 2) (by omega)).trans l3⟩
end Go.Proofs.Qxb6600890a
