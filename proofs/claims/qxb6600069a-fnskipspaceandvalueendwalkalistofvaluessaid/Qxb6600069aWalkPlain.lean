/-
  SEAT b6600069a: what a reader that skips space, takes a value, skips space, steps over a comma meets. No Go in sight.
-/
import Derived.Test.Qxb6600069aLawPlain
namespace Go.Proofs.Qxb6600069a.Plain

theorem Ch_next (W tail : List Int) : ∀ (p : Nat) (ss es : List Nat), Ch W tail p ss es → ∀ k, k ≤ ss.length →
    (k < ss.length → ∃ c t, W.drop ((p :: es).getD k 0) = 9 :: 44 :: 32 :: 10 :: c :: t ∧ isSp c = false ∧ ss.getD k 0 = (p :: es).getD k 0 + 4) ∧ (k = ss.length → W.drop ((p :: es).getD k 0) = tail)
  | p, [], [], h, k, hk => by
    obtain rfl : k = 0 := by simpa using hk
    exact ⟨fun h' => absurd h' (by simp), fun _ => h⟩
  | _, [], _ :: _, h, _, _ => h.elim
  | _, _ :: _, [], h, _, _ => h.elim
  | p, s :: ss, e :: es, h, k, hk => by
    obtain ⟨⟨c, t, h1, h2⟩, h3, _, hc⟩ := h
    cases k with
    | zero => exact ⟨fun _ => ⟨c, t, h1, h2, h3⟩, fun h' => by simp at h'⟩
    | succ k =>
      obtain ⟨a, b⟩ := Ch_next W tail e ss es hc k (by simpa using hk)
      exact ⟨fun h' => a (by simpa using h'), fun h' => b (by simpa using h')⟩

/-- Where the reader stands ahead of value k: at its start; behind the last: at the end. -/
def posn (ss : List Nat) (N k : Nat) : Nat := if k < ss.length then 2 + ss.getD k 0 else N

def tail3 : List Int := [32, 13, 10]
def rawW (T : List Int) : List Int := [10, 32] ++ (T ++ tail3)

theorem raw_drop (T : List Int) (x : Nat) : (rawW T).drop (2 + x) = (T ++ tail3).drop x := by
  rw [rawW, List.drop_append, List.drop_of_length_le (by simp)]; simp

theorem raw_len (T : List Int) : (rawW T).length = T.length + 5 := by simp [rawW, tail3]

theorem drop_cons' (zs : List Int) (k : Nat) (h : k < zs.length) : zs.drop k = zs.getD k 0 :: zs.drop (k + 1) := by
  rw [List.drop_eq_getElem_cons h]; simp [List.getD, h]
theorem raw_at (T : List Int) (x : Nat) (c : Int) (t : List Int) (h : (rawW T).drop x = c :: t) : x < (rawW T).length ∧ (rawW T).getD x 0 = c ∧ (rawW T).drop (x + 1) = t := by
  have hl := drop_lt h
  have h' := drop_cons' (rawW T) x hl
  rw [h] at h'
  simp only [List.cons.injEq] at h'
  exact ⟨hl, h'.1.symm, h'.2.symm⟩
theorem spn_two (a b c : Int) (t : List Int) (ha : isSp a = true) (hb : isSp b = true) (hc : isSp c = false) : spn (a :: b :: c :: t) = 2 := by
  simp [spn, ha, hb, hc]

theorem walk_law (ops : List Int) (hops : ∀ o ∈ ops, 0 ≤ o) (T : List Int) (hT : gen true [] ops = T) (SS EE : List Nat) (hS : stR true 0 [] ops = SS) (hE : enR true 0 [] ops = EE) (N : Nat) (hN : T.length + 5 = N) :
    0 + spn ((rawW T).drop 0) = posn SS N 0 ∧
    ∀ k, k < SS.length → ∃ s e, SS.getD k 0 = s ∧ EE.getD k 0 = e ∧ 2 + s < N ∧ 2 + e ≤ N ∧ 2 + s + vlen ((rawW T).drop (2 + s)) = 2 + e ∧
      (k + 1 < SS.length → 2 + e + spn ((rawW T).drop (2 + e)) = 2 + e + 1 ∧ 2 + e + 2 ≤ N ∧ (rawW T).getD (2 + e + 1) 0 = 44 ∧ 2 + e + 1 + 1 + spn ((rawW T).drop (2 + e + 1 + 1)) = posn SS N (k + 1)) ∧
      (¬ k + 1 < SS.length → 2 + e + spn ((rawW T).drop (2 + e)) = posn SS N (k + 1)) := by
  have ht : ∀ c t, tail3 = c :: t → isDl c = true := by intro c t h; simp only [tail3, List.cons.injEq] at h; rw [← h.1]; decide
  have h := (law (gen true [] ops ++ tail3) tail3 ht ops hops [] 0 true rfl).2.1 rfl rfl
  rw [hT, hS, hE] at h
  have hlen := raw_len T
  have h0 : (rawW T).drop 0 = 10 :: 32 :: (T ++ tail3) := rfl
  rcases h with ⟨h1, h2, h3⟩ | ⟨c, t, e0, ss, es, h1, h2, h3, h4, hg, hc⟩
  · subst h1
    refine ⟨?_, fun k hk => absurd hk (by simp)⟩
    have hT0 : T = [] := by
      have := congrArg List.length h3
      simp [tail3] at this
      exact this
    subst hT0
    simp [rawW, tail3, spn, isSp, posn] at hN ⊢
    omega
  · subst h3 h4
    refine ⟨?_, ?_⟩
    · rw [h0]
      have h1' : T ++ tail3 = c :: t := h1
      rw [h1', spn_two _ _ _ _ (by decide) (by decide) h2]
      simp [posn]
    · intro k hk
      have hall := Ch_all _ _ _ _ _ hc
      have hnext := Ch_next _ _ _ _ _ hc k (by simpa using Nat.lt_succ_iff.1 hk)
      have hgood : Good (T ++ tail3) ((0 :: ss).getD k 0) ((e0 :: es).getD k 0) := by
        cases k with
        | zero => exact hg
        | succ k => exact hall.2 k (by simpa using hk)
      obtain ⟨e, he⟩ : ∃ e, (e0 :: es).getD k 0 = e := ⟨_, rfl⟩
      obtain ⟨s, hs⟩ : ∃ s, (0 :: ss).getD k 0 = s := ⟨_, rfl⟩
      rw [he, hs] at hgood
      rw [he] at hnext
      obtain ⟨g1, g2⟩ := hgood
      have hv := vlen_le ((T ++ tail3).drop s)
      rw [List.length_drop] at hv
      have hl : (T ++ tail3).length + 2 = N := by simp [tail3]; omega
      refine ⟨s, e, hs, he, by omega, by omega, ?_, ?_, ?_⟩
      · rw [raw_drop]; omega
      · intro hk1
        obtain ⟨c', t', d1, d2, d3⟩ := hnext.1 (by simpa using hk1)
        have r0 : (rawW T).drop (2 + e) = 9 :: 44 :: 32 :: 10 :: c' :: t' := by rw [raw_drop]; exact d1
        obtain ⟨r1, r2, r3⟩ := raw_at T _ _ _ r0
        obtain ⟨r4, r5, r6⟩ := raw_at T _ _ _ r3
        obtain ⟨r7, r8, r9⟩ := raw_at T _ _ _ r6
        refine ⟨?_, by omega, r5, ?_⟩
        · rw [r0]; simp [spn, isSp]
        · rw [r6]
          have hp : posn (0 :: ss) N (k + 1) = 2 + (e + 4) := by
            rw [posn, if_pos hk1]
            have : (0 :: ss).getD (k + 1) 0 = ss.getD k 0 := rfl
            rw [this, d3]
          rw [hp, spn_two _ _ _ _ (by decide) (by decide) d2]
          omega
      · intro hk1
        have hlast := hnext.2 (by simp at hk hk1; omega)
        have r0 : (rawW T).drop (2 + e) = tail3 := by rw [raw_drop]; exact hlast
        rw [posn, if_neg hk1, r0]
        have := congrArg List.length hlast
        rw [List.length_drop] at this
        simp [tail3, spn, isSp] at this hl ⊢
        omega
end Go.Proofs.Qxb6600069a.Plain
