/-
  SEAT b6600069a: what both laws' walks want.
-/
import Derived.Test.Qxb6600069aCalls
import Derived.Test.Qxb6600069aScan
import Derived.Test.Qxb6600069aLawPlain
import Derived.OpenShut
namespace Go.Proofs.Qxb6600069a
open Go.RowKit Plain

/-- An argument of bytes, as the row's step opens it. -/
theorem src_of {w : World} {a : Option Addr} {len cap : Nat} {zs : List Int}
    (h : (a = none ∧ len = 0 ∧ cap = 0 ∧ zs = []) ∨ ∃ x, a = some x ∧ len ≤ cap ∧ cap ≤ maxLen ∧ zs.length = cap ∧ (∀ i, i < zs.length → w.cell? (x.add i) = some (.int .u8 (zs.getD i 0))) ∧ ∀ n ∈ zs, (Lit.int .u8 n).wf = true) :
    Src w (.slice a len cap) len (zs.take len) ∧ (a = none → len = 0 ∧ cap = 0) ∧ ∀ j, 0 ≤ (zs.take len).getD j 0 ∧ (zs.take len).getD j 0 ≤ 255 := by
  rcases h with ⟨rfl, rfl, rfl, rfl⟩ | ⟨x, rfl, hl, hm, hz, hc, hw⟩
  · exact ⟨⟨none, 0, rfl, rfl, .inl rfl⟩, fun _ => ⟨rfl, rfl⟩, fun j => by simp⟩
  · refine ⟨⟨_, _, rfl, by rw [List.length_take]; omega, ?_⟩, fun h => (by cases h), fun j => ?_⟩
    · by_cases h0 : len = 0
      · exact .inl h0
      · obtain ⟨b, off, rfl, hc'⟩ := ints_at hc (by omega)
        refine .inr ⟨b, off, rfl, World.block_lt_of_cell? w ⟨b, off + 0, none⟩ (hc' 0 (by omega)), fun j hj => ?_⟩
        rw [hc' j (by omega)]
        simp [List.getD, hj]
    · have := range_u8 (zs := zs.take len) (fun n hn => hw n (List.mem_of_mem_take hn)) j
      simpa [List.getD] using this

/-- serializeValuesB1, with what the plain law says of the lengths. -/
theorem ser_law (ao : Option Addr) (m c : Nat) (zs : List Int) (w : World) (hm : m ≤ 16384) (hs : Src w (.slice ao m c) m zs) (hz : ∀ j, 0 ≤ zs.getD j 0 ∧ zs.getD j 0 ≤ 255) :
    Calls Try.prog 15 #[.slice ao m c] w fun e w' => ∃ gb cb gs cs ge ce nT n : Nat,
      e = .returned (.tuple #[.slice (some ⟨gb, 0, none⟩) nT cb, .slice (some ⟨gs, 0, none⟩) n cs, .slice (some ⟨ge, 0, none⟩) n ce]) ∧ nT ≤ 393216 ∧ n ≤ 16384 ∧
      Hid ((gen true [] (zs.map (· % 8))).length = nT ∧ (stR true 0 [] (zs.map (· % 8))).length = n ∧ (enR true 0 [] (zs.map (· % 8))).length = n ∧
        Own w.heap.size w w' [⟨5, gb, cb, bytesV (gen true [] (zs.map (· % 8)))⟩, ⟨3, gs, cs, natsV (stR true 0 [] (zs.map (· % 8)))⟩, ⟨3, ge, ce, natsV (enR true 0 [] (zs.map (· % 8)))⟩]) := by
  have hzl : zs.length = m := by obtain ⟨_, _, _, h, _⟩ := hs; exact h
  refine (ser_any ao m c zs w hm hs hz).mono ?_
  rintro e w' ⟨gb, cb, gs, cs, ge, ce, rfl, hO⟩
  have hops : ∀ o ∈ zs.map (· % 8), (0 : Int) ≤ o := by
    intro o ho
    obtain ⟨x, _, rfl⟩ := List.mem_map.1 ho
    show 0 ≤ x % 8
    omega
  have hl := (law_all (zs.map (· % 8)) [] hops (fun c t h => by cases h)).1
  have h1 := gen_len (zs.map (· % 8)) true []
  have h2 := stR_len (zs.map (· % 8)) true 0 []
  rw [List.length_map, hzl] at h1 h2
  simp only [List.length_nil] at h1
  refine ⟨gb, cb, gs, cs, ge, ce, _, _, ?_, ?_, ?_, rfl, rfl, hl.symm, hO⟩
  · rw [← hl]
  · omega
  · omega

/-- valueEnd at a place whose answer is known. -/
theorem ZZvalueEnd_at (g n cap : Nat) (zs : List Int) (start e : Nat) (x : Int) (w : World) (hn : zs.length = n) (hs : start < n) (hm : n ≤ 1099511627776) (hx : x = (start : Int)) (he : start + vlen (zs.drop start) = e)
    (hb : ∀ j, 0 ≤ zs.getD j 0 ∧ zs.getD j 0 ≤ 255)
    (hc : ∀ j, j < n → w.cell? ⟨g, j, none⟩ = some (.int .u8 (zs.getD j 0))) :
    Calls Try.prog 17 #[.slice (some ⟨g, 0, none⟩) n cap, .int .i64 x] w fun r w' => r = .returned (.int .i64 (e : Int)) ∧ w' = w := by
  subst hx he
  exact ZZvalueEnd_any g n cap zs start w hn hs hm hb hc

/-- .. and skipSpace. -/
theorem ZZskipSpace_at (g n cap : Nat) (zs : List Int) (start e : Nat) (x : Int) (w : World) (hn : zs.length = n) (hs : start ≤ n) (hm : n ≤ 1099511627776) (hx : x = (start : Int)) (he : start + spn (zs.drop start) = e)
    (hc : ∀ j, j < n → w.cell? ⟨g, j, none⟩ = some (.int .u8 (zs.getD j 0))) :
    Calls Try.prog 19 #[.slice (some ⟨g, 0, none⟩) n cap, .int .i64 x] w fun r w' => r = .returned (.int .i64 (e : Int)) ∧ w' = w := by
  subst hx he
  exact ZZskipSpace_any g n cap zs start w hn hs hm hc

/-- What a slice of the caller's clones lends to an append. -/
theorem Src.cells {w : World} {ao : Option Addr} {m c g : Nat} {zs : List Int} {B : Nat} {w0 : World} (h : Src w0 (.slice ao m c) m zs) (hB : Below B w0 w) (hb : w0.heap.size ≤ B) (hg : B ≤ g) : Cells w g ao m zs := by
  obtain ⟨ao', c', hv, hz, hor⟩ := h
  simp only [Value.slice.injEq, true_and] at hv
  obtain ⟨rfl, rfl⟩ := hv
  rcases hor with h0 | ⟨b, off, h1, h2, h3⟩
  · exact .inl h0
  exact .inr ⟨b, off, h1, by omega, Nat.lt_of_lt_of_le h2 hB.size, fun j hj => (hB.cell (p := ⟨b, off + j, none⟩) (by show b < B; omega)).trans (h3 j hj)⟩

theorem Src.len {w : World} {v : Value} {m : Nat} {zs : List Int} (h : Src w v m zs) : zs.length = m := by obtain ⟨_, _, _, h, _⟩ := h; exact h

/-- A row of bytes of the call's own, appended to another. -/
theorem Rw.In.lends {gb cb g m : Nat} {zs : List Int} {w : World} (h : (Rw.mk 5 gb cb (bytesV zs)).In w) (hz : zs.length = m) (hg : gb ≠ g) : Cells w g (some ⟨gb, 0, none⟩) m zs := by
  refine .inr ⟨gb, 0, rfl, hg, h.lt, fun j hj => ?_⟩
  rw [Nat.zero_add, h.cell j (by rw [bytesV_length]; omega), bytesV_get zs j (by omega)]
end Go.Proofs.Qxb6600069a
