/-
  SEAT b6600775a: THE ROW of FnReplyErrorSplitsFirstLine: the walk is Qxb6600775aLaw's; the frame is the guide's shell at this function's number and types.
-/
import Derived.Test.Qxb6600775aRows
import Derived.WalkKit
import Derived.ProofKit
import Derived.OpenShut
import Derived.ShutString
import Derived.ChangeOld
import Derived.SliceStrings
import Derived.Below
import Derived.Test.Qxb6600775aLaw
import Derived.Test.Qxb6600775aHead
namespace Go.Proofs.Qxb6600775a.fnReplyErrorSplitsFirstLine
open Go.ChangeShapes Go.WideShapes Go.ChangeAt Go.RowKit
open Go.ChangeMaps (open_string shut_string)
set_option linter.unusedVariables false

theorem own : ownKnob Try.prog.godebug = none := by kernel_rfl
theorem laidOut : laidOutB Try.prog = true := by kernel_rfl

/-- WHAT THE WALK IS TOLD OF A SLICE OF STRINGS THAT CAME IN. -/
def IsRow (w : World) (a : Option Addr) (len cap : Nat) (ss : List ByteArray) : Prop :=
  len ≤ maxLen ∧ Src w a len ss ∧ (∀ s ∈ ss, s.size ≤ maxLen) ∧ (a = none → len = 0 ∧ cap = 0)

theorem isRow_of {w : World} {x : Addr} {l c : Nat} {ss : List ByteArray} (hl : l ≤ c) (hm : c ≤ maxLen) (hz : l ≤ ss.length) (hcell : ∀ i, i < ss.length → w.cell? (x.add i) = some (.string (ss.getD i ByteArray.empty))) (hsz : ∀ s ∈ ss, s.size ≤ maxLen) :
    IsRow w (some x) l c (ss.take l) := by
  refine ⟨by omega, ⟨by rw [List.length_take]; omega, ?_⟩, fun s hs => hsz s (List.mem_of_mem_take hs), fun h => by cases h⟩
  by_cases h0 : l = 0
  · exact .inl h0
  · obtain ⟨b, off, spot⟩ := x
    have hspot : spot = none := by simpa [Addr.add] using World.cell?_spot (hcell 0 (by omega))
    subst hspot
    have hc : ∀ j, j < ss.length → w.cell? ⟨b, off + j, none⟩ = some (.string (ss.getD j ByteArray.empty)) := fun j hj => by rw [← Go.WideShapes.add_plain]; exact hcell j hj
    refine .inr ⟨b, off, rfl, World.block_lt_of_cell? w ⟨b, off + 0, none⟩ (hc 0 (by omega)), fun j hj => ?_⟩
    rw [hc j (by omega)]
    simp [List.getD, hj]

/-! ### STEP 1: THE WALK -/
theorem walk (a0 : Option Addr) (len0 cap0 : Nat) (z0 : List ByteArray) (w : World) (w0 : IsRow w a0 len0 cap0 z0) :
    Calls Try.prog 3 #[.slice a0 len0 cap0] w fun e w' => e = .returned (.bool true) ∧ Below w.heap.size w w' := by
  obtain ⟨h1, h2, h3, h4⟩ := w0
  exact law_any a0 len0 cap0 z0 w h1 h2 h3 h4

/-! ### THE ROW's STEP: WRITTEN OUT: LEAVE IT -/
set_option maxRecDepth 100000 in
theorem lifted (os : Os) (started : os.Started) (H : Type) (enc : TypeId × Value → H) :
    ReturnsInHanded {} Try.checked os 3 .any (Rows.fnReplyErrorSplitsFirstLineSpec.pre6 enc Try.prog Try.f3 Rows.fnReplyErrorSplitsFirstLineRow.domain false) (Rows.fnReplyErrorSplitsFirstLineSpec.post enc Try.prog Try.f3 false true false false) := by
  refine returnsInHanded_of_change (C := Try.checked) own started (by kernel_rfl) Try.func3
    (ChangeSpec.witness6 (enc := enc) (C := Try.checked) false ⟨#[], #[.slice none 0 0], []⟩ 8 (by kernel_rfl) (by kernel_rfl) (by kernel_rfl) (by kernel_rfl)) ?_
  intro W base args ds gs before hval0 hW hcnd _
  have hval : ∀ (j : Nat) t v, Try.f3.params[j]? = some t → args[j]? = some v → Value.okWide Try.prog W .any base t v := hval0
  have hW' := hW
  obtain ⟨p, q, hA0, hV, rfl, hfz, hnd⟩ := hW
  have hA : DataW.TrodAll enc Try.prog W 0 (fun _ => true) true Try.f3.params.toList args.toList ds p := hA0
  rw [Try.params3] at hA hval
  obtain ⟨v0, vs0, d0, ds0, p0, q0, hargs, rfl, rfl, h0, r0⟩ := trodAll_cons hA
  obtain ⟨rfl, rfl, rfl⟩ := trodAll_nil r0
  obtain rfl : args = #[v0] := by cases args; simp_all
  obtain ⟨rfl, rfl⟩ := trodVars_none hV
  obtain ⟨a0, len0, cap0, rfl⟩ := okWide_slice Try.underlying22 (hval 0 22 v0 rfl rfl)
  have k0 := h0
  have lt0 : ∀ x ∈ p0, x.block < W.heap.size := by obtain ⟨m, hm⟩ := k0; exact DataW.trod_lt m _ _ _ hm
  obtain ⟨z0, w0⟩ : ∃ zs, IsRow W a0 len0 cap0 zs := by
    obtain ⟨fuel, hf⟩ := h0
    rcases open_strings Try.underlying22 Try.underlying9 (by kernel_rfl) hf with ⟨hcs, _⟩ | ⟨x, l, c, zs, hcs, _, hl, hm, hz, _, hcell, hwz⟩
    · simp [Value.cells] at hcs
      obtain ⟨rfl, rfl, rfl⟩ := hcs
      exact ⟨[], Nat.zero_le _, ⟨rfl, .inl rfl⟩, by simp, fun _ => ⟨rfl, rfl⟩⟩
    · simp [Value.cells] at hcs
      obtain ⟨rfl, rfl, rfl⟩ := hcs
      exact ⟨_, isRow_of hl hm (by rw [hz]; simp; omega) hcell hwz⟩
  clear hA0 hval0
  refine (walk a0 len0 cap0 z0 W w0).mono fun e W' ⟨he, bel⟩ => ?_
  subst he
  exact ⟨_, rfl, _, _, _, [], _, [], hW', trodAll_mk1 (shut_bool Try.underlying4 _), (trodAll_cons_mk (Below.trod laidOut (by kernel_rfl) (of_decide_eq_true (by kernel_rfl)) k0 bel lt0) trodAll_mk0), rfl, bel.frame _, fun h => by cases h⟩

theorem closed : joinedFacts Try.prog 3 Try.f3 Rows.fnReplyErrorSplitsFirstLineSpec Rows.fnReplyErrorSplitsFirstLineRow = true := by
  rw [joinedFacts, headEnters, headLifted, headMake]
  refine Eq.trans ?_ (rfl : true = true)
  kernel_rfl

theorem over : Rows.fnReplyErrorSplitsFirstLineRow.holds Try.pinned (OpenSpec.ofChange Rows.fnReplyErrorSplitsFirstLineSpec) :=
  OpenClaim.holds_of_wide 3 Try.f3 rfl rfl rfl rfl rfl rfl rfl ⟨rfl, rfl, rfl, rfl, rfl⟩ rfl rfl rfl rfl rfl (by kernel_rfl) Try.func3 closed
    (of_decide_eq_true (by kernel_rfl)) (by unfold Func.isWrapper; first | (rw [if_pos (by decide +kernel)]; kernel_rfl) | (rw [if_neg (by decide +kernel)]; exact ⟨rfl, rfl⟩))
    (fun os started H enc _ => lifted os started H enc)

/-- ████ THE STATEMENT ████ -/
theorem proved : Rows.FnReplyErrorSplitsFirstLineSaid := over
#print axioms proved
end Go.Proofs.Qxb6600775a.fnReplyErrorSplitsFirstLine
