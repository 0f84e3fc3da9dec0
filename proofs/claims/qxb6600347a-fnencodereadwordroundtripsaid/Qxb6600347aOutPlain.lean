/-
  SEAT b6600347a: where the words lie in what Encode writes. No Go in sight.
-/
import Derived.Test.Qxb6600347aEncode
import Derived.Lib.Strings
namespace Go.Proofs.Qxb6600347a
open Go.RowKit

theorem getD_app (a b : List Int) (j : Nat) : (a ++ b).getD j 0 = if j < a.length then a.getD j 0 else b.getD (j - a.length) 0 := by
  rw [List.getD, List.getElem?_append]
  split <;> simp [List.getD]

theorem outL_word (zs : List Int) (n : Nat) : ∀ k, k < n → (∀ j, j < 5 → (outL zs n).getD (6 * k + j) 0 = (encW (pairV zs k)).getD j 0) ∧ (1 ≤ k → (outL zs n).getD (6 * k - 1) 0 = 45) := by
  induction n with
  | zero => intro k hk; omega
  | succ n ih =>
    intro k hk
    have hl := outL_len zs n
    have hls : (outL zs n ++ if n = 0 then [] else [45]).length = 6 * n := by
      rw [List.length_append, hl]; split
      · subst_vars; rfl
      · simp; omega
    by_cases hkn : k < n
    · obtain ⟨h1, h2⟩ := ih k hkn
      refine ⟨fun j hj => ?_, fun hk1 => ?_⟩
      · rw [outL, getD_app, if_pos (by rw [hls]; omega), getD_app, if_pos (by rw [hl]; omega)]
        exact h1 j hj
      · rw [outL, getD_app, if_pos (by rw [hls]; omega), getD_app, if_pos (by rw [hl]; omega)]
        exact h2 hk1
    · obtain rfl : k = n := by omega
      refine ⟨fun j hj => ?_, fun hk1 => ?_⟩
      · rw [outL, getD_app, if_neg (by rw [hls]; omega), hls, show 6 * k + j - 6 * k = j from by omega]
      · rw [outL, getD_app, if_pos (by rw [hls]; omega), getD_app, if_neg (by rw [hl]; omega), hl, if_neg (by omega), show 6 * k - 1 - (6 * k - 1) = 0 from by omega]
        rfl

theorem letters (l : List Int) (h : ∀ b ∈ l, 0 ≤ b ∧ b ≤ 255) (k : Nat) : 0 ≤ l.getD k 0 ∧ l.getD k 0 ≤ 255 := by
  by_cases hj : k < l.length
  · have := h l[k] (List.getElem_mem hj)
    simpa [List.getD, hj] using this
  · simp [List.getD, List.getElem?_eq_none (by omega : l.length ≤ k)]
theorem encW_byte (x : Int) : ∀ b ∈ encW x, 0 ≤ b ∧ b ≤ 255 := by
  have hc := letters consT (by decide)
  have hv := letters vowT (by decide)
  intro b hb
  simp only [encW, List.mem_cons, List.not_mem_nil, or_false] at hb
  rcases hb with rfl | rfl | rfl | rfl | rfl
  · exact hc _
  · exact hv _
  · exact hc _
  · exact hv _
  · exact hc _
theorem outL_byte (zs : List Int) (n : Nat) : ∀ b ∈ outL zs n, 0 ≤ b ∧ b ≤ 255 := by
  induction n with
  | zero => intro b hb; simp [outL] at hb
  | succ n ih =>
    intro b hb
    rcases List.mem_append.1 hb with hb | hb
    · rcases List.mem_append.1 hb with hb | hb
      · exact ih b hb
      · split at hb <;> simp at hb
        omega
    · exact encW_byte _ b hb

/-- A byte of the string, as a number. -/
theorem str_at (l : List Int) (hb : ∀ b ∈ l, 0 ≤ b ∧ b ≤ 255) (j : Nat) : (((strOfNums l).data.toList.getD j 0).toNat : Int) = l.getD j 0 := by
  have h := letters l hb j
  rw [strOfNums_data, List.getD, List.getElem?_map]
  by_cases hj : j < l.length
  · rw [List.getD, List.getElem?_eq_getElem hj] at h ⊢
    simp only [Option.map_some, Option.getD_some] at h ⊢
    have : (UInt8.ofNat (l[j]).toNat).toNat = (l[j]).toNat := by
      rw [UInt8.toNat_ofNat']; omega
    rw [this]; omega
  · rw [List.getD, List.getElem?_eq_none (by omega)]; rfl

/-- Word k, cut out and read. -/
theorem word_read (zs : List Int) (n k : Nat) (hk : k < n) (hb : ∀ j, 0 ≤ zs.getD j 0 ∧ zs.getD j 0 ≤ 255) (E : ByteArray) (hE : E = (strOfNums (outL zs n)).extract (6 * k) (6 * k + 5)) :
    E.size = 5 ∧ (∀ j, j < 5 → 0 ≤ idx E j) ∧ wd E 5 = pairV zs k := by
  have hsz : (strOfNums (outL zs n)).size = 6 * n - 1 := by rw [strOfNums_size, outL_len]
  have hd : E.data.toList = ((strOfNums (outL zs n)).data.toList.drop (6 * k)).take 5 := by
    rw [hE, Lib.extract_data]
    simp
  have hlen : (strOfNums (outL zs n)).data.toList.length = 6 * n - 1 := by rw [← hsz]; rfl
  have hp0 := (hb (2 * k)).1
  have hp1 := (hb (2 * k)).2
  have hq0 := (hb (2 * k + 1)).1
  have hq1 := (hb (2 * k + 1)).2
  have hx : pairV zs k = zs.getD (2 * k) 0 * 256 + zs.getD (2 * k + 1) 0 := rfl
  obtain ⟨h1, h2⟩ := read_enc E (pairV zs k) (by omega) (by omega) (fun j hj => by
    have e : E.data.toList.getD j 0 = (strOfNums (outL zs n)).data.toList.getD (6 * k + j) 0 := by
      rw [hd, List.getD, List.getElem?_take, if_pos hj, List.getElem?_drop]; rfl
    rw [e, str_at _ (outL_byte zs n), (outL_word zs n k hk).1 j hj])
  refine ⟨?_, h1, h2⟩
  have : E.data.toList.length = 5 := by rw [hd, List.length_take, List.length_drop, hlen]; omega
  exact this
end Go.Proofs.Qxb6600347a
