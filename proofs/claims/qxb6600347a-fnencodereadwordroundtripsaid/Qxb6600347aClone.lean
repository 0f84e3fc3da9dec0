/-
  SEAT b6600347a: zzCloneBytes; what is told of a slice of bytes.
-/
import Derived.Test.Qxb6600347aPlain
import Derived.OpenShut
import Derived.Deep.LoopGhost
namespace Go.Proofs.Qxb6600347a
open Go.RowKit

theorem bytesV_append (a b : List Int) : bytesV (a ++ b) = bytesV a ++ bytesV b := List.map_append
theorem bytesV_length (a : List Int) : (bytesV a).length = a.length := List.length_map _
theorem bytesV_get (a : List Int) (j : Nat) (h : j < a.length) : (bytesV a)[j]? = some (.int .u8 (a.getD j 0)) := by simp [bytesV, List.getD, h]

/-- A slice of bytes: empty, or a block's row with its first cells. -/
def Src (w : World) (v : Value) (m : Nat) (zs : List Int) : Prop :=
  ∃ ao c, v = .slice ao m c ∧ zs.length = m ∧ (m = 0 ∨ ∃ b off, ao = some ⟨b, off, none⟩ ∧ b < w.heap.size ∧ ∀ j, j < m → w.cell? ⟨b, off + j, none⟩ = some (.int .u8 (zs.getD j 0)))

/-- An argument of bytes, as the row's step opens it. -/
theorem src_of {w : World} {a : Option Addr} {len cap : Nat} {zs : List Int}
    (h : (a = none ∧ len = 0 ∧ cap = 0 ∧ zs = []) ∨ ∃ x, a = some x ∧ len ≤ cap ∧ cap ≤ maxLen ∧ zs.length = cap ∧ (∀ i, i < zs.length → w.cell? (x.add i) = some (.int .u8 (zs.getD i 0))) ∧ ∀ n ∈ zs, (Lit.int .u8 n).wf = true) :
    Src w (.slice a len cap) len (zs.take len) ∧ (a = none → len = 0 ∧ cap = 0) ∧ ∀ j, 0 ≤ (zs.take len).getD j 0 ∧ (zs.take len).getD j 0 ≤ 255 := by
  rcases h with ⟨rfl, rfl, rfl, rfl⟩ | ⟨x, rfl, hl, hm, hz, hc, hw⟩
  · exact ⟨⟨none, 0, rfl, rfl, .inl rfl⟩, fun _ => ⟨rfl, rfl⟩, fun j => by simp⟩
  · refine ⟨⟨_, _, rfl, by rw [List.length_take]; omega, ?_⟩, fun h => (by cases h), fun j => ?_⟩
    · by_cases h0 : len = 0
      · exact .inl h0
      · obtain ⟨b, off, rfl, hc'⟩ := ints_at hc (by omega)
        refine .inr ⟨b, off, rfl, World.block_lt_of_cell? w ⟨b, off + 0, none⟩ (hc' 0 (by omega)), fun j hj => ?_⟩
        rw [hc' j (by omega)]
        simp [List.getD, hj]
    · have := range_u8 (zs := zs.take len) (fun n hn => hw n (List.mem_of_mem_take hn)) j
      simpa [List.getD] using this

theorem Src.len {w : World} {v : Value} {m : Nat} {zs : List Int} (h : Src w v m zs) : zs.length = m := by obtain ⟨_, _, _, h, _⟩ := h; exact h

/-- What has been copied so far, and the zeros behind it. -/
def cop (zs : List Int) (k : Nat) : List Int := zs.take k ++ List.replicate (zs.length - k) 0
theorem cop_len (zs : List Int) (k : Nat) (h : k ≤ zs.length) : (cop zs k).length = zs.length := by simp [cop]; omega
theorem cop_zero (zs : List Int) : cop zs 0 = List.replicate zs.length 0 := by simp [cop]
theorem cop_all (zs : List Int) : cop zs zs.length = zs := by simp [cop]
theorem cop_step (zs : List Int) (k : Nat) (h : k < zs.length) : (bytesV (cop zs k)).set k (.int .u8 (zs.getD k 0)) = bytesV (cop zs (k + 1)) := by
  rw [bytesV, bytesV, ← List.map_set]
  congr 1
  unfold cop
  rw [List.set_append_right _ _ (by simp; omega)]
  have e : zs.length - k = (zs.length - (k + 1)) + 1 := by omega
  rw [e, List.replicate_succ]
  have e2 : k - (zs.take k).length = 0 := by simp; omega
  have hg : zs.getD k 0 = zs[k] := by simp [List.getD, h]
  rw [e2, List.set_cons_zero, List.take_succ_eq_append_getElem h, hg, List.append_assoc]
  rfl

set_option maxHeartbeats 400000 in
theorem clone_some (x : Addr) (m c : Nat) (zs : List Int) (w : World) (hbd : m ≤ 1099511627776) (hs : Src w (.slice (some x) m c) m zs) :
    Calls Try.prog 14 #[.slice (some x) m c] w fun e w' => e = .returned (.slice (some ⟨w.heap.size, 0, none⟩) m m) ∧ Own w.heap.size w w' [⟨5, w.heap.size, m, bytesV zs⟩] := by
  obtain ⟨i0, hi, hz0, hz1, hz2⟩ := info_parts info5
  have hnil := fun w a n c => Lib.run_eql_slice_nil (P := Try.prog) w 26 5 a n c 0 0 Try.underlying26
  have HZ : Hid (zs.length = m) := hs.len
  have HS : Hid (Src w (.slice (some x) m c) m zs) := hs
  clear hs
  go_enter Try.func14, Try.ntmps14
  go_wp2_with (at_make; refine wpList_make_full _ rfl _ _ 26 rfl 0 5 i0 (.int .u8 0) 1 Try.underlying26 hi hz0 hz1 _ _ _ _ m rfl rfl rfl rfl (by rw [hz2]; omega) (by simp only [maxLen]; omega) (Nat.zero_le _) ?_)
  intro w1 hown hgr
  have hR1 := Rw.of_owns hown
  have hxs : (madeCells #[Value.int .u8 0] m).toList = bytesV (cop zs 0) := by
    rw [toList_madeCells_one, cop_zero, bytesV, List.map_replicate, HZ.out]
  rw [hxs] at hR1
  have HO1 : Hid (Own w.heap.size w w1 [⟨5, w.heap.size, m, bytesV (cop zs 0)⟩]) := (Own.empty w).made' hgr hR1
  clear hown hgr hR1 hxs hnil
  obtain ⟨G, hG⟩ : ∃ G, G = w.heap.size := ⟨_, rfl⟩
  have HGe : Hid (G = w.heap.size) := hG
  rw [← hG]
  rw [← hG] at HO1
  clear hG
  go_wp2_with fail
  go_loopg [4] m (fun gk i wr => ∃ k : Nat, Hid (gk = m - k) ∧ k ≤ m ∧ i = .int .i64 k ∧ Hid (Own G w wr [⟨5, G, m, bytesV (cop zs k)⟩]))
  case atStart => exact ⟨0, rfl, Nat.zero_le _, rfl, HO1⟩
  case round =>
    obtain ⟨k, HG, hk, rfl, HO⟩ := hrel
    by_cases hlt : k < m
    · obtain ⟨ao, c', hv, _, hor⟩ := HS.out
      simp only [Value.slice.injEq, true_and] at hv
      obtain ⟨hao, _⟩ := hv
      subst hao
      rcases hor with h0 | ⟨b, off, hb0, hb, hc⟩
      · omega
      · simp only [Option.some.injEq] at hb0
        have hcell : wr.cell? ⟨b, off + k, none⟩ = some (.int .u8 (zs.getD k 0)) := (HO.out.below.cell (p := ⟨b, off + k, none⟩) (by rw [HGe.out]; exact hb)).trans (hc k hlt)
        subst hb0
        obtain ⟨q, hq⟩ : ∃ q, q = zs.getD k 0 := ⟨_, rfl⟩
        rw [← hq] at hcell
        have hlc : (bytesV (cop zs k)).length = m := by rw [bytesV_length, cop_len zs k (by rw [HZ.out]; omega), HZ.out]
        obtain ⟨u, hu⟩ : ∃ u, wr.cell? ⟨G, k, none⟩ = some (.int .u8 u) := by
          refine ⟨(cop zs k).getD k 0, ?_⟩
          rw [(HO.out.row (i := 0) rfl).cell k (by rw [hlc]; exact hlt), bytesV_get _ k (by rw [bytesV_length] at hlc; rw [hlc]; exact hlt)]
        have hf : wr.frozen? ⟨G, k, none⟩ = false := (HO.out.row (i := 0) rfl).frozen k
        have HOs : Hid (Own G w (wr.setCell ⟨G, k, none⟩ (.int .u8 q)) [⟨5, G, m, bytesV (cop zs (k + 1))⟩]) := by
          have h := HO.out.store (i := 0) rfl k (.int .u8 q)
          rw [hq, cop_step zs k (by rw [HZ.out]; exact hlt)] at h
          rw [hq]
          exact h
        clear hc hb hlc hq
        go_wp2
        go_roundg (m - (k + 1))
        case measure => have := HG.out; omega
        case rel => exact ⟨k + 1, rfl, by omega, by go_num, HOs⟩
    · obtain rfl : k = m := by omega
      go_wp2
      go_ret
      have h := HO.out
      have e : cop zs k = zs := by have := HZ.out; subst this; exact cop_all zs
      rw [e] at h
      have hg := HGe.out
      subst hg
      exact ⟨rfl, h⟩

theorem clone_nil (w : World) : Calls Try.prog 14 #[.slice none 0 0] w fun e w' => e = .returned (.slice none 0 0) ∧ w' = w := by
  have hnil := fun w a n c => Lib.run_eql_slice_nil (P := Try.prog) w 26 5 a n c 0 0 Try.underlying26
  go_enter Try.func14, Try.ntmps14
  go_wp2
  go_ret
  exact ⟨rfl, rfl⟩
end Go.Proofs.Qxb6600347a
