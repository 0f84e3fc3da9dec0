/-
  SEAT b6600347a: THE PLAIN LAW: the letters that were read are the letters that are written; and the other way round.
-/
import Derived.Test.Qxb6600347aRead
import Derived.Test.Qxb6600347aWord
namespace Go.Proofs.Qxb6600347a
open Go.RowKit

theorem indexByte_get (l : List UInt8) (c : UInt8) (h : 0 ≤ Lib.indexByte l c) : l.getD (Lib.indexByte l c).toNat 0 = c := by
  induction l with
  | nil => simp [Lib.indexByte] at h
  | cons b l ih =>
    unfold Lib.indexByte at h ⊢
    by_cases hb : (b == c) = true
    · simp only [hb, if_true]
      simpa using hb
    · simp only [Bool.not_eq_true] at hb
      simp only [hb] at h ⊢
      by_cases h1 : (Lib.indexByte l c == -1) = true
      · simp [h1] at h
      · simp only [h1] at h ⊢
        have hge := Lib.indexByte_ge l c
        have hne : Lib.indexByte l c ≠ -1 := by simpa using h1
        have e : (Lib.indexByte l c + 1).toNat = (Lib.indexByte l c).toNat + 1 := by omega
        simp only [Bool.false_eq_true, if_false]
        rw [e]
        exact ih (by omega)

theorem consT_eq (k : Nat) : consT.getD k 0 = ((consB.getD k 0).toNat : Int) := by
  have h : consT = consB.map fun b => (b.toNat : Int) := by decide
  rw [h, List.getD, List.getD, List.getElem?_map]
  cases consB[k]? <;> rfl
theorem vowT_eq (k : Nat) : vowT.getD k 0 = ((vowB.getD k 0).toNat : Int) := by
  have h : vowT = vowB.map fun b => (b.toNat : Int) := by decide
  rw [h, List.getD, List.getD, List.getElem?_map]
  cases vowB[k]? <;> rfl

theorem idx_cons (s : ByteArray) (j : Nat) (hj : ¬ j % 2 = 1) (h : 0 ≤ idx s j) : consT.getD (idx s j).toNat 0 = ((s.data.toList.getD j 0).toNat : Int) := by
  unfold idx at h ⊢
  rw [if_neg hj] at h ⊢
  rw [consT_eq, indexByte_get _ _ h]
theorem idx_vow (s : ByteArray) (j : Nat) (hj : j % 2 = 1) (h : 0 ≤ idx s j) : vowT.getD (idx s j).toNat 0 = ((s.data.toList.getD j 0).toNat : Int) := by
  unfold idx at h ⊢
  rw [if_pos hj] at h ⊢
  rw [vowT_eq, indexByte_get _ _ h]

/-- A word that is read is the word that is written. -/
theorem enc_read (s : ByteArray) (hok : ∀ j, j < 5 → 0 ≤ idx s j) (j : Nat) (hj : j < 5) : (encW (wd s 5)).getD j 0 = ((s.data.toList.getD j 0).toNat : Int) := by
  have e : wd s 5 = ((((0 * 16 + idx s 0) * 4 + idx s 1) * 16 + idx s 2) * 4 + idx s 3) * 16 + idx s 4 := by simp [wd]
  have a0 := hok 0 (by omega); have a1 := hok 1 (by omega); have a2 := hok 2 (by omega); have a3 := hok 3 (by omega); have a4 := hok 4 (by omega)
  have b0 : idx s 0 < 16 := idx_lt s 0
  have b1 : idx s 1 < 4 := idx_lt s 1
  have b2 : idx s 2 < 16 := idx_lt s 2
  have b3 : idx s 3 < 4 := idx_lt s 3
  have b4 : idx s 4 < 16 := idx_lt s 4
  have d0 : wd s 5 / 4096 = idx s 0 := by omega
  have d1 : wd s 5 / 1024 % 4 = idx s 1 := by omega
  have d2 : wd s 5 / 64 % 16 = idx s 2 := by omega
  have d3 : wd s 5 / 16 % 4 = idx s 3 := by omega
  have d4 : wd s 5 % 16 = idx s 4 := by omega
  have hor : j = 0 ∨ j = 1 ∨ j = 2 ∨ j = 3 ∨ j = 4 := by omega
  unfold encW
  rw [d0, d1, d2, d3, d4]
  rcases hor with rfl | rfl | rfl | rfl | rfl
  · exact idx_cons s 0 (by omega) a0
  · exact idx_vow s 1 (by omega) a1
  · exact idx_cons s 2 (by omega) a2
  · exact idx_vow s 3 (by omega) a3
  · exact idx_cons s 4 (by omega) a4

theorem indexByte_cons (k : Nat) (h : k < 16) : Lib.indexByte consB (consB.getD k 0) = (k : Int) := by
  have : ∀ k : Fin 16, Lib.indexByte consB (consB.getD k.val 0) = (k.val : Int) := by decide
  exact this ⟨k, h⟩
theorem indexByte_vow (k : Nat) (h : k < 4) : Lib.indexByte vowB (vowB.getD k 0) = (k : Int) := by
  have : ∀ k : Fin 4, Lib.indexByte vowB (vowB.getD k.val 0) = (k.val : Int) := by decide
  exact this ⟨k, h⟩

/-- A word that is written is read again. -/
theorem read_enc (s : ByteArray) (x : Int) (h0 : 0 ≤ x) (h1 : x ≤ 65535) (hs : ∀ j, j < 5 → ((s.data.toList.getD j 0).toNat : Int) = (encW x).getD j 0) : (∀ j, j < 5 → 0 ≤ idx s j) ∧ wd s 5 = x := by
  have key : ∀ (k : Nat) (b : UInt8) (c : UInt8), ((b.toNat : Nat) : Int) = ((c.toNat : Nat) : Int) → b = c := by
    intro k b c h
    exact UInt8.toNat_inj.1 (by omega)
  have i0 : idx s 0 = x / 4096 := by
    have h := hs 0 (by omega)
    have e : (encW x).getD 0 0 = consT.getD (x / 4096).toNat 0 := rfl
    rw [e, consT_eq] at h
    rw [idx, if_neg (by omega), key 0 _ _ h, indexByte_cons _ (by omega)]; omega
  have i1 : idx s 1 = x / 1024 % 4 := by
    have h := hs 1 (by omega)
    have e : (encW x).getD 1 0 = vowT.getD (x / 1024 % 4).toNat 0 := rfl
    rw [e, vowT_eq] at h
    rw [idx, if_pos (by omega), key 1 _ _ h, indexByte_vow _ (by omega)]; omega
  have i2 : idx s 2 = x / 64 % 16 := by
    have h := hs 2 (by omega)
    have e : (encW x).getD 2 0 = consT.getD (x / 64 % 16).toNat 0 := rfl
    rw [e, consT_eq] at h
    rw [idx, if_neg (by omega), key 2 _ _ h, indexByte_cons _ (by omega)]; omega
  have i3 : idx s 3 = x / 16 % 4 := by
    have h := hs 3 (by omega)
    have e : (encW x).getD 3 0 = vowT.getD (x / 16 % 4).toNat 0 := rfl
    rw [e, vowT_eq] at h
    rw [idx, if_pos (by omega), key 3 _ _ h, indexByte_vow _ (by omega)]; omega
  have i4 : idx s 4 = x % 16 := by
    have h := hs 4 (by omega)
    have e : (encW x).getD 4 0 = consT.getD (x % 16).toNat 0 := rfl
    rw [e, consT_eq] at h
    rw [idx, if_neg (by omega), key 4 _ _ h, indexByte_cons _ (by omega)]; omega
  refine ⟨fun j hj => ?_, ?_⟩
  · have hor : j = 0 ∨ j = 1 ∨ j = 2 ∨ j = 3 ∨ j = 4 := by omega
    rcases hor with rfl | rfl | rfl | rfl | rfl <;> omega
  · have e : wd s 5 = ((((0 * 16 + idx s 0) * 4 + idx s 1) * 16 + idx s 2) * 4 + idx s 3) * 16 + idx s 4 := by simp [wd]
    rw [e, i0, i1, i2, i3, i4]; omega

/-- How many letters are of their tables. -/
theorem first_bad (s : ByteArray) : ∃ J, J ≤ 5 ∧ (∀ j, j < J → 0 ≤ idx s j) ∧ (J < 5 → idx s J < 0) := by
  by_cases h0 : 0 ≤ idx s 0
  · by_cases h1 : 0 ≤ idx s 1
    · by_cases h2 : 0 ≤ idx s 2
      · by_cases h3 : 0 ≤ idx s 3
        · by_cases h4 : 0 ≤ idx s 4
          · refine ⟨5, by omega, fun j hj => ?_, fun h => by omega⟩
            have hor : j = 0 ∨ j = 1 ∨ j = 2 ∨ j = 3 ∨ j = 4 := by omega
            rcases hor with rfl | rfl | rfl | rfl | rfl <;> assumption
          · refine ⟨4, by omega, fun j hj => ?_, fun _ => by omega⟩
            have hor : j = 0 ∨ j = 1 ∨ j = 2 ∨ j = 3 := by omega
            rcases hor with rfl | rfl | rfl | rfl <;> assumption
        · refine ⟨3, by omega, fun j hj => ?_, fun _ => by omega⟩
          have hor : j = 0 ∨ j = 1 ∨ j = 2 := by omega
          rcases hor with rfl | rfl | rfl <;> assumption
      · refine ⟨2, by omega, fun j hj => ?_, fun _ => by omega⟩
        have hor : j = 0 ∨ j = 1 := by omega
        rcases hor with rfl | rfl <;> assumption
    · refine ⟨1, by omega, fun j hj => ?_, fun _ => by omega⟩
      obtain rfl : j = 0 := by omega
      assumption
  · exact ⟨0, by omega, fun j hj => by omega, fun _ => by omega⟩

end Go.Proofs.Qxb6600347a
