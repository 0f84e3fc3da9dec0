/-
  SEAT b6600069a: appendBytesB1, cloneBytesB1.
-/
import Derived.Test.Qxb6600069aProg
import Derived.Test.Qxb6600069aOwn
import Derived.WalkSpells
namespace Go.Proofs.Qxb6600069a
open Go.RowKit

theorem info5 : (Try.prog.info? 5).map (fun i => (i.zero, i.size, i.bytes)) = some (some (.int .u8 0), 1, 1) := by kernel_rfl

def bytesV (l : List Int) : List Value := l.map (Value.int .u8)
theorem bytesV_append (a b : List Int) : bytesV (a ++ b) = bytesV a ++ bytesV b := List.map_append
theorem bytesV_length (a : List Int) : (bytesV a).length = a.length := List.length_map _
theorem bytesV_get (a : List Int) (j : Nat) (h : j < a.length) : (bytesV a)[j]? = some (.int .u8 (a.getD j 0)) := by simp [bytesV, List.getD, h]

theorem take_snoc' (zs : List Int) (k : Nat) (h : k < zs.length) : zs.take (k + 1) = zs.take k ++ [zs.getD k 0] := by
  rw [List.take_succ_eq_append_getElem h]; simp [List.getD, h]

set_option maxHeartbeats 400000 in
theorem appendBytes_some (g n cap : Nat) (xs : List Value) (b off m c : Nat) (zs : List Int) (w : World) (hn : xs.length = n) (hr : (Rw.mk 5 g cap xs).In w)
    (hb : b ≠ g) (hbs : b < w.heap.size) (hbd : n + m ≤ 1099511627776) (hm : m ≤ zs.length) (hc : ∀ j, j < m → w.cell? ⟨b, off + j, none⟩ = some (.int .u8 (zs.getD j 0))) :
    Calls Try.prog 16 #[.slice (some ⟨g, 0, none⟩) n cap, .slice (some ⟨b, off, none⟩) m c] w fun e w' =>
      ∃ g' cap', e = .returned (.slice (some ⟨g', 0, none⟩) (n + m) cap') ∧ (Rw.mk 5 g' cap' (xs ++ bytesV (zs.take m))).In w' ∧ Upd w w' g g' := by
  obtain ⟨i0, hi, hz0, hz1, hz2⟩ := info_parts info5
  have HN : Hid (xs.length = n) := hn
  have HR : Hid ((Rw.mk 5 g cap xs).In w) := hr
  have HC : Hid (∀ j, j < m → w.cell? ⟨b, off + j, none⟩ = some (.int .u8 (zs.getD j 0))) := hc
  clear hn hr hc
  go_enter Try.func16, Try.ntmps16
  go_wp2
  go_loopw [0, 5] (fun v i wr => ∃ k g1 c1 : Nat, k ≤ m ∧ v = .slice (some ⟨g1, 0, none⟩) (n + k) c1 ∧ i = .int .i64 k ∧ Hid ((Rw.mk 5 g1 c1 (xs ++ bytesV (zs.take k))).In wr) ∧ Hid (Upd w wr g g1))
    (fun _ i _ => m - (intOf i).toNat)
  case atStart => exact ⟨0, g, cap, Nat.zero_le _, rfl, rfl, by simpa [bytesV] using HR, Upd.refl _ _⟩
  case round =>
    obtain ⟨k, g1, c1, hk, rfl, rfl, hR1, hU⟩ := hrel
    by_cases hlt : k < m
    · have hcell : wr.cell? ⟨b, off + k, none⟩ = some (.int .u8 (zs.getD k 0)) := (hU.out.cell (by simpa using hbs) (by simpa using hb)).trans (HC.out k hlt)
      obtain ⟨q, hq⟩ : ∃ q, q = zs.getD k 0 := ⟨_, rfl⟩
      rw [← hq] at hcell
      have HQ : Hid (q = zs.getD k 0) := hq
      clear hq
      go_wp2_with (at_builtin; refine wpList_app _ rfl _ _ 22 rfl 5 i0 (.int .u8 0) 1 Try.underlying22 hi hz0 hz1 hz2 rfl g1 _ c1 rfl ⟨wr.heap.size, 0, none⟩ 1 1 rfl (xs ++ bytesV (zs.take k)) [.int .u8 q] ?c1 (hR1.out.alloc _) rfl (new_cells _ [.int .u8 q] _) ?c2 ?c3 ?c4 ?_)
      case c1 => have := HN.out; simp [bytesV]; omega
      case c2 => intro u hu; simp at hu; subst hu; rfl
      case c3 => unfold maxLen; omega
      case c4 => omega
      intro g2 c2 w2 hR2 hU2
      have hU3 := hU.out.trans hU2.alloc_left
      have hR3 : Hid ((Rw.mk 5 g2 c2 (xs ++ bytesV (zs.take (k + 1)))).In w2) := by
        have h : (Rw.mk 5 g2 c2 (xs ++ bytesV (zs.take (k + 1)))).In w2 := by
          rw [take_snoc' zs k (by omega), ← HQ.out]; simpa [bytesV] using hR2
        exact h
      have HU3 : Hid (Upd w w2 g g2) := hU3
      clear hU3 hR2 hU2 hcell
      go_wp2
      go_roundw
      case rel => exact ⟨k + 1, g2, c2, by omega, by rw [Nat.add_assoc], by go_num, hR3, HU3⟩
      case measure => simp [intOf]; omega
    · go_wp2
      go_ret
      obtain rfl : k = m := by omega
      exact ⟨g1, c1, rfl, hR1.out, hU.out⟩

/-- Nothing to append. -/
theorem appendBytes_none (v : Value) (ao : Option Addr) (c : Nat) (w : World) :
    Calls Try.prog 16 #[v, .slice ao 0 c] w fun e w' => e = .returned v ∧ w' = w := by
  go_enter Try.func16, Try.ntmps16
  go_wp2
  go_loop [0, 5] (fun x i => x = v ∧ i = .int .i64 0) (fun _ _ => 0)
  case atStart => exact ⟨rfl, rfl⟩
  case round =>
    obtain ⟨rfl, rfl⟩ := hrel
    go_wp2
    go_ret
    exact ⟨rfl, rfl⟩

/-- A slice of bytes as this call may hold it: nil, or a block's row with its first cells. -/
def Src (w : World) (v : Value) (m : Nat) (zs : List Int) : Prop :=
  ∃ ao c, v = .slice ao m c ∧ zs.length = m ∧ (m = 0 ∨ ∃ b off, ao = some ⟨b, off, none⟩ ∧ b < w.heap.size ∧ ∀ j, j < m → w.cell? ⟨b, off + j, none⟩ = some (.int .u8 (zs.getD j 0)))

/-- cloneBytesB1 at a slice that is not nil. -/
theorem cloneBytes_some (x : Addr) (m c : Nat) (zs : List Int) (w : World) (hbd : m ≤ 1099511627776) (hs : Src w (.slice (some x) m c) m zs) :
    Calls Try.prog 14 #[.slice (some x) m c] w fun e w' =>
      ∃ g' cap', e = .returned (.slice (some ⟨g', 0, none⟩) m cap') ∧ (Rw.mk 5 g' cap' (bytesV zs)).In w' ∧ w.heap.size ≤ g' ∧ Below w.heap.size w w' := by
  obtain ⟨i0, hi, hz0, hz1, hz2⟩ := info_parts info5
  have hnil := fun w a n c => Lib.run_eql_slice_nil (P := Try.prog) w 22 5 a n c 0 0 Try.underlying22
  have HS : Hid (Src w (.slice (some x) m c) m zs) := hs
  clear hs
  go_enter Try.func14, Try.ntmps14
  go_wp2_with (at_make; refine wpList_make_own _ rfl _ _ 22 rfl 0 5 i0 (.int .u8 0) 1 Try.underlying22 hi hz0 hz1 _ _ _ m rfl rfl rfl ?b1 ?b2 (Nat.zero_le _) ?_)
  case b1 => rw [hz2]; omega
  case b2 => unfold maxLen; omega
  intro w1 hown hgr
  have hR1 := Rw.of_owns hown
  have hlt := hR1.lt
  obtain ⟨ao, c', hv, hzl, hor⟩ := HS.out
  simp only [Value.slice.injEq, true_and] at hv
  obtain ⟨rfl, rfl⟩ := hv
  have hbel : Below w.heap.size w w1 := (Below.refl _ _).grown hgr (Nat.le_refl _) (fun k hk => by simp at hk)
  have HB : Hid (Below w.heap.size w w1) := hbel
  have HR1 : Hid ((Rw.mk 5 w.heap.size m []).In w1) := hR1
  have HO : Hid (m = 0 ∨ ∃ b off, some x = some ⟨b, off, none⟩ ∧ b < w.heap.size ∧ ∀ j, j < m → w.cell? ⟨b, off + j, none⟩ = some (.int .u8 (zs.getD j 0))) := hor
  have HZ : Hid (zs.length = m) := hzl
  clear hown hgr hR1 hbel hor hnil hzl
  simp only at hlt
  rcases HO.out with h0 | ⟨b, off, hx, hb, hc⟩
  · subst h0
    go_wp2_with (go_at_call 16; refine (appendBytes_none _ _ _ _).mono ?_; rintro e w' ⟨rfl, rfl⟩)
    go_ret
    have hz : zs = [] := List.eq_nil_of_length_eq_zero HZ.out
    subst hz
    exact ⟨_, _, rfl, by simpa [bytesV] using HR1.out, Nat.le_refl _, HB.out⟩
  · simp only [Option.some.injEq] at hx
    subst hx
    have HCc : Hid (∀ j, j < m → w1.cell? ⟨b, off + j, none⟩ = some (.int .u8 (zs.getD j 0))) := fun j hj => (HB.out.cell (p := ⟨b, off + j, none⟩) hb).trans (hc j hj)
    clear hc
    go_wp2_with (go_at_call 16; refine (appendBytes_some _ 0 _ [] _ _ _ _ zs _ rfl HR1.out (by omega) (by omega) (by omega) (Nat.le_of_eq HZ.out.symm) HCc.out).mono ?_; rintro e w' ⟨g', cap', rfl, hR, hU⟩)
    go_ret
    refine ⟨g', cap', by simp, ?_, ?_, ?_⟩
    · have e := HZ.out
      subst e
      simpa using hR
    · rcases hU.2 with e | e
      · omega
      · have := HB.out.size; omega
    · exact HB.out.grown hU.1 HB.out.size (fun k hk => by simp at hk; omega)

theorem cloneBytes_nil (w : World) : Calls Try.prog 14 #[.slice none 0 0] w fun e w' => e = .returned (.slice none 0 0) ∧ w' = w := by
  have hnil := fun w a n c => Lib.run_eql_slice_nil (P := Try.prog) w 22 5 a n c 0 0 Try.underlying22
  go_enter Try.func14, Try.ntmps14
  go_wp2
  go_ret
  exact ⟨rfl, rfl⟩
end Go.Proofs.Qxb6600069a
