/-
  SEAT b6600069a: what a round of each scanner's loop does, in the plain functions' words. No Go in sight.
-/
import Derived.Test.Qxb6600069aPlain
namespace Go.Proofs.Qxb6600069a.Plain

theorem drop_cons (zs : List Int) (k : Nat) (h : k < zs.length) : zs.drop k = zs.getD k 0 :: zs.drop (k + 1) := by
  rw [List.drop_eq_getElem_cons h]; simp [List.getD, h]

theorem sE_nil (zs : List Int) (k : Nat) (h : zs.length ≤ k) : sE (zs.drop k) = 0 := by rw [List.drop_of_length_le h]; rfl

theorem sE_esc (zs : List Int) (k : Nat) (h : k < zs.length) (hc : zs.getD k 0 = 92) : min (k + 2) zs.length + sE (zs.drop (k + 2)) = k + sE (zs.drop k) := by
  rw [drop_cons zs k h, hc]
  by_cases h1 : k + 1 < zs.length
  · rw [drop_cons zs (k + 1) h1]; simp only [sE]; rw [if_pos trivial, show k + 1 + 1 = k + 2 from rfl]; omega
  · rw [List.drop_of_length_le (by omega), List.drop_of_length_le (by omega)]; simp only [sE]; omega

theorem sE_quote (zs : List Int) (k : Nat) (h : k < zs.length) (hc : zs.getD k 0 = 34) : sE (zs.drop k) = 1 := by
  rw [drop_cons zs k h, hc]
  cases zs.drop (k + 1) <;> simp [sE]

theorem sE_else (zs : List Int) (k : Nat) (h : k < zs.length) (h1 : ¬ zs.getD k 0 = 92) (h2 : ¬ zs.getD k 0 = 34) : k + 1 + sE (zs.drop (k + 1)) = k + sE (zs.drop k) := by
  rw [drop_cons zs k h]
  by_cases h3 : k + 1 < zs.length
  · rw [drop_cons zs (k + 1) h3]; simp only [sE]; rw [if_neg h1, if_neg h2]; omega
  · rw [List.drop_of_length_le (by omega)]; simp only [sE]

theorem spn_yes (zs : List Int) (k : Nat) (h : k < zs.length) (h1 : isSp (zs.getD k 0) = true) : k + 1 + spn (zs.drop (k + 1)) = k + spn (zs.drop k) := by
  rw [drop_cons zs k h]; simp only [spn]; rw [if_pos h1]; omega
theorem spn_no (zs : List Int) (k : Nat) (h : k < zs.length) (h1 : isSp (zs.getD k 0) = false) : spn (zs.drop k) = 0 := by
  rw [drop_cons zs k h]; simp only [spn, h1]; rfl
theorem spn_nil (zs : List Int) (k : Nat) (h : zs.length ≤ k) : spn (zs.drop k) = 0 := by rw [List.drop_of_length_le h]; rfl
theorem scal_yes (zs : List Int) (k : Nat) (h : k < zs.length) (h1 : isDl (zs.getD k 0) = false) : k + 1 + scal (zs.drop (k + 1)) = k + scal (zs.drop k) := by
  rw [drop_cons zs k h]; simp only [scal, h1]; simp; omega
theorem scal_no (zs : List Int) (k : Nat) (h : k < zs.length) (h1 : isDl (zs.getD k 0) = true) : scal (zs.drop k) = 0 := by
  rw [drop_cons zs k h]; simp only [scal, h1]; rfl
theorem scal_nil (zs : List Int) (k : Nat) (h : zs.length ≤ k) : scal (zs.drop k) = 0 := by rw [List.drop_of_length_le h]; rfl

theorem bR_nil (d : Nat) (zs : List Int) (k : Nat) (h : zs.length ≤ k) : bR d 0 (zs.drop k) = 0 := by rw [List.drop_of_length_le h]; simp [bR]
theorem bR_quote (d : Nat) (zs : List Int) (k : Nat) (h : k < zs.length) (hc : zs.getD k 0 = 34) :
    (k + 1 + sE (zs.drop (k + 1))) + bR d 0 (zs.drop (k + 1 + sE (zs.drop (k + 1)))) = k + bR d 0 (zs.drop k) := by
  rw [drop_cons zs k h, hc]; simp only [bR]; rw [if_pos trivial, bR_str, List.drop_drop]; omega
theorem bR_open (d : Nat) (zs : List Int) (k : Nat) (h : k < zs.length) (hc : zs.getD k 0 = 123 ∨ zs.getD k 0 = 91) : k + 1 + bR (d + 1) 0 (zs.drop (k + 1)) = k + bR d 0 (zs.drop k) := by
  rw [drop_cons zs k h]; simp only [bR]; rw [if_neg (by omega), if_pos hc]; omega
theorem bR_close (d : Nat) (zs : List Int) (k : Nat) (h : k < zs.length) (hc : zs.getD k 0 = 125 ∨ zs.getD k 0 = 93) (hd : ¬ d = 1) : k + 1 + bR (d - 1) 0 (zs.drop (k + 1)) = k + bR d 0 (zs.drop k) := by
  rw [drop_cons zs k h]; simp only [bR]; rw [if_neg (by omega), if_neg (by omega), if_pos hc, if_neg hd]; omega
theorem bR_done (zs : List Int) (k : Nat) (h : k < zs.length) (hc : zs.getD k 0 = 125 ∨ zs.getD k 0 = 93) : bR 1 0 (zs.drop k) = 1 := by
  rw [drop_cons zs k h]; simp only [bR]; rw [if_neg (by omega), if_neg (by omega), if_pos hc, if_pos trivial]
theorem bR_else (d : Nat) (zs : List Int) (k : Nat) (h : k < zs.length) (h1 : ¬ zs.getD k 0 = 34) (h2 : ¬ (zs.getD k 0 = 123 ∨ zs.getD k 0 = 91)) (h3 : ¬ (zs.getD k 0 = 125 ∨ zs.getD k 0 = 93)) :
    k + 1 + bR d 0 (zs.drop (k + 1)) = k + bR d 0 (zs.drop k) := by
  rw [drop_cons zs k h]; simp only [bR]; rw [if_neg h1, if_neg h2, if_neg h3]; omega

theorem vlen_str (zs : List Int) (k : Nat) (h : k < zs.length) (hc : zs.getD k 0 = 34) : vlen (zs.drop k) = 1 + sE (zs.drop (k + 1)) := by
  rw [drop_cons zs k h, hc]; simp [vlen]
theorem vlen_br (zs : List Int) (k : Nat) (h : k < zs.length) (hc : zs.getD k 0 = 123 ∨ zs.getD k 0 = 91) : vlen (zs.drop k) = bR 0 0 (zs.drop k) := by
  rw [drop_cons zs k h]; simp only [vlen]; rw [if_neg (by omega), if_pos hc]
theorem vlen_sc (zs : List Int) (k : Nat) (h : k < zs.length) (h1 : ¬ zs.getD k 0 = 34) (hc : ¬ (zs.getD k 0 = 123 ∨ zs.getD k 0 = 91)) : vlen (zs.drop k) = scal (zs.drop k) := by
  rw [drop_cons zs k h]; simp only [vlen]; rw [if_neg h1, if_neg hc]

end Go.Proofs.Qxb6600069a.Plain
