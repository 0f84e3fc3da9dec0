/-
  SEAT b6600775a: cloneLines.
-/
import Derived.Test.Qxb6600775aHelp
import Derived.OpenShut
namespace Go.Proofs.Qxb6600775a
open Go.RowKit

def strsV (ss : List ByteArray) : List Value := ss.map (fun s => .string s)
theorem strsV_length (a : List ByteArray) : (strsV a).length = a.length := List.length_map _
theorem strsV_get (a : List ByteArray) (j : Nat) (h : j < a.length) : (strsV a)[j]? = some (.string (a.getD j ByteArray.empty)) := by simp [strsV, List.getD, h]

/-- What has been copied so far, and the zeros behind it. -/
def cop (zs : List ByteArray) (k : Nat) : List ByteArray := zs.take k ++ List.replicate (zs.length - k) ⟨#[]⟩
theorem cop_len (zs : List ByteArray) (k : Nat) (h : k ≤ zs.length) : (cop zs k).length = zs.length := by simp [cop]; omega
theorem cop_zero (zs : List ByteArray) : cop zs 0 = List.replicate zs.length ⟨#[]⟩ := by simp [cop]
theorem cop_all (zs : List ByteArray) : cop zs zs.length = zs := by simp [cop]
theorem cop_step (zs : List ByteArray) (k : Nat) (h : k < zs.length) : (strsV (cop zs k)).set k (.string (zs.getD k ByteArray.empty)) = strsV (cop zs (k + 1)) := by
  rw [strsV, strsV, ← List.map_set]
  congr 1
  unfold cop
  rw [List.set_append_right _ _ (by simp; omega)]
  have e : zs.length - k = (zs.length - (k + 1)) + 1 := by omega
  rw [e, List.replicate_succ]
  have e2 : k - (zs.take k).length = 0 := by simp; omega
  have hg : zs.getD k ByteArray.empty = zs[k] := by simp [List.getD, h]
  rw [e2, List.set_cons_zero, List.take_succ_eq_append_getElem h, hg, List.append_assoc]
  rfl

set_option maxHeartbeats 400000 in
theorem clone_some (x : Addr) (m c : Nat) (zs : List ByteArray) (w : World) (hbd : m ≤ 1099511627776) (hs : Src w (some x) m zs) :
    Calls Try.prog 6 #[.slice (some x) m c] w fun e w' => e = .returned (.slice (some ⟨w.heap.size, 0, none⟩) m m) ∧ Own w.heap.size w w' [⟨9, w.heap.size, m, strsV zs⟩] := by
  obtain ⟨i0, hi, hz0, hz1, hz2⟩ := info_parts info9
  have hnil := fun w a n c => Lib.run_eql_slice_nil (P := Try.prog) w 22 9 a n c 0 0 Try.underlying22
  have HZ : Hid (zs.length = m) := hs.len
  have HS : Hid (Src w (some x) m zs) := hs
  clear hs
  go_enter Try.func6, Try.ntmps6
  go_wp2_with (at_make; refine wpList_make_full _ rfl _ _ 22 rfl 0 9 i0 (.string ⟨#[]⟩) 1 Try.underlying22 hi hz0 hz1 _ _ _ _ m rfl rfl rfl rfl (by rw [hz2]; omega) (by simp only [maxLen]; omega) (Nat.zero_le _) ?_)
  intro w1 hown hgr
  have hR1 := Rw.of_owns hown
  have hxs : (madeCells #[Value.string ⟨#[]⟩] m).toList = strsV (cop zs 0) := by
    rw [toList_madeCells_one, cop_zero, strsV, List.map_replicate, HZ.out]
  rw [hxs] at hR1
  have HO1 : Hid (Own w.heap.size w w1 [⟨9, w.heap.size, m, strsV (cop zs 0)⟩]) := (Own.empty w).made' hgr hR1
  clear hown hgr hR1 hxs hnil
  obtain ⟨G, hG⟩ : ∃ G, G = w.heap.size := ⟨_, rfl⟩
  have HGe : Hid (G = w.heap.size) := hG
  rw [← hG]
  rw [← hG] at HO1
  clear hG
  go_wp2_with fail
  go_loopg [4] m (fun gk i wr => ∃ k : Nat, Hid (gk = m - k) ∧ k ≤ m ∧ i = .int .i64 k ∧ Hid (Own G w wr [⟨9, G, m, strsV (cop zs k)⟩]))
  case atStart => exact ⟨0, rfl, Nat.zero_le _, rfl, HO1⟩
  case round =>
    obtain ⟨k, HG, hk, rfl, HO⟩ := hrel
    by_cases hlt : k < m
    · obtain ⟨_, hor⟩ := HS.out
      rcases hor with h0 | ⟨b, off, hb0, hb, hc⟩
      · omega
      · simp only [Option.some.injEq] at hb0
        have hcell : wr.cell? ⟨b, off + k, none⟩ = some (.string (zs.getD k ByteArray.empty)) := (HO.out.below.cell (p := ⟨b, off + k, none⟩) (by rw [HGe.out]; exact hb)).trans (hc k hlt)
        subst hb0
        obtain ⟨q, hq⟩ : ∃ q, q = zs.getD k ByteArray.empty := ⟨_, rfl⟩
        rw [← hq] at hcell
        have hlc : (strsV (cop zs k)).length = m := by rw [strsV_length, cop_len zs k (by rw [HZ.out]; omega), HZ.out]
        obtain ⟨u, hu⟩ : ∃ u, wr.cell? ⟨G, k, none⟩ = some (.string u) := by
          refine ⟨(cop zs k).getD k ByteArray.empty, ?_⟩
          rw [(HO.out.row (i := 0) rfl).cell k (by rw [hlc]; exact hlt), strsV_get _ k (by rw [strsV_length] at hlc; rw [hlc]; exact hlt)]
        have hf : wr.frozen? ⟨G, k, none⟩ = false := (HO.out.row (i := 0) rfl).frozen k
        have HOs : Hid (Own G w (wr.setCell ⟨G, k, none⟩ (.string q)) [⟨9, G, m, strsV (cop zs (k + 1))⟩]) := by
          have h := HO.out.store (i := 0) rfl k (.string q)
          rw [hq, cop_step zs k (by rw [HZ.out]; exact hlt)] at h
          rw [hq]
          exact h
        clear hc hb hlc hq
        go_wp2
        go_roundg (m - (k + 1))
        case measure => have := HG.out; omega
        case rel => exact ⟨k + 1, rfl, by omega, by go_num, HOs⟩
    · obtain rfl : k = m := by omega
      go_wp2
      go_ret
      have h := HO.out
      have e : cop zs k = zs := by have := HZ.out; subst this; exact cop_all zs
      rw [e] at h
      have hg := HGe.out
      subst hg
      exact ⟨rfl, h⟩

theorem clone_nil (w : World) : Calls Try.prog 6 #[.slice none 0 0] w fun e w' => e = .returned (.slice none 0 0) ∧ w' = w := by
  have hnil := fun w a n c => Lib.run_eql_slice_nil (P := Try.prog) w 22 9 a n c 0 0 Try.underlying22
  go_enter Try.func6, Try.ntmps6
  go_wp2
  go_ret
  exact ⟨rfl, rfl⟩
end Go.Proofs.Qxb6600775a
