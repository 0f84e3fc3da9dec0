/-
  SEAT b6600890a: THE CUT's HEAD, without reckoning its words out: asked as they stand, three closed facts of every row ('mayEnter', 'liftsFinal', 'make') make the kernel take the head's text (a thousand signs) apart: 12.9 GB, over the lid.
-/
import Derived.Test.Qxb6600890aRows
import Derived.JoinedOf
import Derived.KernelRfl
namespace Go.Proofs.Qxb6600890a
open Go
set_option maxRecDepth 100000
theorem signsOf {s : String} {l : List Char} (h : s = String.ofList l) : s.toList = l := by rw [h, String.toList_ofList]
theorem signs_ne (l : List Char) : wordsSigns l ≠ [] := by
  induction l with
  | nil => simp [wordsSigns]
  | cons c r ih =>
    unfold wordsSigns
    split
    · simp
    · simp
    · split <;> simp
theorem words_cons (c : Char) (r : List Char) (h : c ≠ ' ') : ∃ w ws, wordsSigns r = w :: ws ∧ wordsSigns (c :: r) = (c :: w) :: ws := by
  cases hr : wordsSigns r with
  | nil => exact absurd hr (signs_ne r)
  | cons w ws =>
    refine ⟨w, ws, rfl, ?_⟩
    rw [wordsSigns, hr]
    intro hc
    exact absurd hc h
theorem words_split : ∀ (a : List Char) (b : List Char), wordsSigns (a ++ ' ' :: b) = wordsSigns a ++ wordsSigns b
  | [], b => by simp [wordsSigns]
  | c :: a, b => by
    by_cases h : c = ' '
    · subst h
      simp only [List.cons_append, wordsSigns]
      rw [words_split a b]
    · obtain ⟨w, ws, h1, h2⟩ := words_cons c a h
      obtain ⟨w', ws', h3, h4⟩ := words_cons c (a ++ ' ' :: b) h
      rw [List.cons_append, h4, h2]
      rw [words_split a b, h1] at h3
      simp at h3
      obtain ⟨rfl, rfl⟩ := h3
      simp
theorem split_at (l : List Char) (n : Nat) (h : l[n]? = some ' ') : wordsSigns l = wordsSigns (l.take n) ++ wordsSigns (l.drop (n + 1)) := by
  have hn : n < l.length := (List.getElem?_eq_some_iff.1 h).1
  have hv : l[n] = ' ' := (List.getElem?_eq_some_iff.1 h).2
  have e : l = l.take n ++ ' ' :: l.drop (n + 1) := by
    rw [← hv, ← List.drop_eq_getElem_cons hn, List.take_append_drop]
  exact (congrArg wordsSigns e).trans (words_split _ _)
/-- THE HEAD's WORDS: behind main's own word 'cut' stands first; what follows is not looked into. -/
theorem headCut : ∃ R, behindMainWord (wordsSigns Try.prog.initOrder.toList) = ['c', 'u', 't'] :: R := by
  have h0 : Try.prog.initOrder = Try.prog.initOrder := rfl
  conv at h0 => rhs; whnf
  rw [h0, signsOf (s := _) rfl]
  rw [split_at _ 76 rfl]
  generalize hR : wordsSigns (List.drop (76 + 1) _) = R
  refine ⟨R, ?_⟩
  clear hR h0
  refine Eq.symm ?_
  refine Eq.symm (Eq.trans ?_ rfl)
  kernel_rfl
theorem headEnters : Try.prog.mayEnter = true := by
  obtain ⟨R, hR⟩ := headCut
  rw [Program.mayEnter, hR]
  refine Eq.trans ?_ (rfl : true = true)
  kernel_rfl
theorem headLifted : Try.prog.liftsFinal = false := by
  obtain ⟨R, hR⟩ := headCut
  rw [Program.liftsFinal, Program.headLifts, hR]
  refine Eq.trans ?_ (rfl : false = false)
  kernel_rfl
theorem headMake : Try.prog.make = some .cut := by
  obtain ⟨R, hR⟩ := headCut
  rw [Program.make, hR]
  refine Eq.trans ?_ (rfl : some Make.cut = some .cut)
  kernel_rfl
end Go.Proofs.Qxb6600890a
