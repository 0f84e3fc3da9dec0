/-
  SEAT b6600069a: the plain law, by index; lengths. No Go in sight.
-/
import Derived.Test.Qxb6600069aInv
namespace Go.Proofs.Qxb6600069a.Plain

theorem gen_len (ops : List Int) : ∀ (first : Bool) (st : Stack), (gen first st ops).length ≤ 24 * ops.length + st.length := by
  induction ops with
  | nil => intro first st; simp [gen, closers]
  | cons op ops ih =>
    intro first st
    by_cases h2 : op = 2
    · simp only [gen, if_pos h2]
      cases st with
      | nil => have := ih first []; simp at this ⊢; omega
      | cons p s => have := ih first s; simp at this ⊢; omega
    · simp only [gen, if_neg h2, List.length_append, List.length_cons]
      have h1 := ih false (push op st)
      have h3 := (body_len op).2
      have h4 := pre_len first st
      have h5 := push_length op st
      split at h5 <;> omega

theorem stR_len (ops : List Int) : ∀ (first : Bool) (pos : Nat) (st : Stack), (stR first pos st ops).length ≤ ops.length := by
  induction ops with
  | nil => intro first pos st; simp [stR]
  | cons op ops ih =>
    intro first pos st
    by_cases h2 : op = 2
    · simp only [stR, if_pos h2]
      cases st with
      | nil => have := ih first pos []; simp; omega
      | cons p s => have := ih first (pos + 1) s; simp; omega
    · simp only [stR, if_neg h2, List.length_append, List.length_cons]
      have h1 := ih false (pos + (pre first st ++ body op).length) (push op st)
      rw [List.length_append] at h1
      cases st <;> simp at h1 ⊢ <;> omega

theorem bR_le : ∀ (l : List Int) (d m : Nat), bR d m l ≤ l.length
  | [], d, m => by simp [bR]
  | c :: t, d, 0 => by
    have h1 := bR_le t d 1; have h2 := bR_le t (d + 1) 0; have h3 := bR_le t (d - 1) 0; have h4 := bR_le t d 0
    simp only [bR, List.length_cons]; repeat' split
    all_goals omega
  | c :: t, d, 1 => by
    have h1 := bR_le t d 1; have h2 := bR_le t d 2; have h4 := bR_le t d 0
    simp only [bR, List.length_cons]; repeat' split
    all_goals omega
  | c :: t, d, m + 2 => by
    have h1 := bR_le t d 1
    simp only [bR, List.length_cons]; omega
theorem scal_le (l : List Int) : scal l ≤ l.length := by
  induction l with
  | nil => simp [scal]
  | cons c t ih => simp only [scal, List.length_cons]; split <;> omega
theorem spn_le (l : List Int) : spn l ≤ l.length := by
  induction l with
  | nil => simp [spn]
  | cons c t ih => simp only [spn, List.length_cons]; split <;> omega
theorem vlen_le (l : List Int) : vlen l ≤ l.length := by
  cases l with
  | nil => simp [vlen]
  | cons c t =>
    have h1 := sE_le t
    have h2 := bR_le (c :: t) 0 0
    have h3 := scal_le (c :: t)
    simp only [vlen]
    split
    · simp; omega
    · split
      · exact h2
      · exact h3

theorem Ch_all (W tail : List Int) : ∀ (pos : Nat) (ss es : List Nat), Ch W tail pos ss es → ss.length = es.length ∧ ∀ k, k < ss.length → Good W (ss.getD k 0) (es.getD k 0)
  | _, [], [], _ => ⟨rfl, fun k hk => absurd hk (by simp)⟩
  | _, [], _ :: _, h => h.elim
  | _, _ :: _, [], h => h.elim
  | _, s :: ss, e :: es, h => by
    obtain ⟨_, _, hg, hc⟩ := h
    obtain ⟨h1, h2⟩ := Ch_all W tail e ss es hc
    refine ⟨by simp [h1], fun k hk => ?_⟩
    cases k with
    | zero => exact hg
    | succ k => exact h2 k (by simpa using hk)

/-- Every value that was written: its start and its end, by its number. -/
theorem law_all (ops tail : List Int) (hops : ∀ o ∈ ops, 0 ≤ o) (ht : ∀ c t, tail = c :: t → isDl c = true) :
    (stR true 0 [] ops).length = (enR true 0 [] ops).length ∧ ∀ k, k < (stR true 0 [] ops).length → Good (gen true [] ops ++ tail) ((stR true 0 [] ops).getD k 0) ((enR true 0 [] ops).getD k 0) := by
  have h := (law (gen true [] ops ++ tail) tail ht ops hops [] 0 true rfl).2.1 rfl rfl
  rcases h with ⟨h1, h2, _⟩ | ⟨c, t, e, ss, es, _, _, h1, h2, hg, hc⟩
  · rw [h1, h2]; exact ⟨rfl, fun k hk => absurd hk (by simp)⟩
  · rw [h1, h2]
    obtain ⟨h3, h4⟩ := Ch_all _ _ _ _ _ hc
    refine ⟨by simp [h3], fun k hk => ?_⟩
    cases k with
    | zero => exact hg
    | succ k => exact h4 k (by simpa using hk)

/-- .. and behind whatever bytes stand ahead. -/
theorem law_in (pre' W : List Int) (s e : Nat) (h : Good W s e) : pre'.length + s < (pre' ++ W).length ∧ pre'.length + s + vlen ((pre' ++ W).drop (pre'.length + s)) = pre'.length + e := by
  obtain ⟨h1, h2⟩ := h
  rw [List.drop_append, List.drop_of_length_le (by omega), show pre'.length + s - pre'.length = s from by omega, List.nil_append, List.length_append]
  exact ⟨by omega, by omega⟩
end Go.Proofs.Qxb6600069a.Plain
