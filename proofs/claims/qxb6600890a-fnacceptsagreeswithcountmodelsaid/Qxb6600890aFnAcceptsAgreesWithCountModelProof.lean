/-
  SEAT b6600890a: THE ROW of FnAcceptsAgreesWithCountModel: the walk is Qxb6600890aLawQ's; the frame is the guide's shell's steps at this function's number and types (bool, two slices of three-cell structs, string).
-/
import Derived.Test.Qxb6600890aRows
import Derived.WalkKit
import Derived.ProofKit
import Derived.OpenShut
import Derived.ShutString
import Derived.ChangeOld
import Derived.ChangeArms
import Derived.Below
import Derived.Test.Qxb6600890aLawQ
import Derived.Test.Qxb6600890aHead
namespace Go.Proofs.Qxb6600890a.fnAcceptsAgreesWithCountModel
open Go.ChangeShapes Go.WideShapes Go.ChangeAt Go.RowKit
open Go.ChangeMaps (open_string shut_string)
set_option linter.unusedVariables false

theorem own : ownKnob Try.prog.godebug = none := by kernel_rfl
theorem laidOut : laidOutB Try.prog = true := by kernel_rfl
theorem cells41 : Try.prog.cellsOf 41 = 3 := by kernel_rfl
theorem cells4 : Try.prog.cellsOf 4 = 1 := by kernel_rfl
theorem cells9 : Try.prog.cellsOf 9 = 1 := by kernel_rfl

/-- WHAT THE WALK IS TOLD OF A SLICE OF PATTERNS THAT CAME IN. -/
def IsRow (w : World) (a : Option Addr) (len : Nat) (f : Nat → IP) : Prop := len ≤ maxLen ∧ Src3 w a len f ∧ Held len f

section
variable {H : Type} {enc : TypeId × Value → H} {w : World} {base : Nat} {spare : Nat → Bool} {held : Bool}
theorem open_ip {fuel : Nat} {cs : List Value} {x : DataW H × List MemPlace} (h : DataW.trod enc Try.prog w base spare held fuel 41 cs = some x) :
    ∃ y : IP, cs = [.bool y.s, .string y.b, .bool y.t] ∧ y.b.size ≤ maxLen := by
  obtain ⟨xs, n, _, _, hl, hlen, hf⟩ := DataW.trod_struct Try.underlying41 h
  rw [cells41] at hl
  have hlen' : xs.length = 3 := hlen
  match xs, hlen' with
  | [y0, y1, y2], _ =>
    match cs, hl with
    | [v0, v1, v2], _ =>
      have g0 : DataW.trod enc Try.prog w base spare held n 4 (([v0, v1, v2].drop 0).take (Try.prog.cellsOf 4)) = some y0 := hf 0 _ rfl
      have g1 : DataW.trod enc Try.prog w base spare held n 9 (([v0, v1, v2].drop 1).take (Try.prog.cellsOf 9)) = some y1 := hf 1 _ rfl
      have g2 : DataW.trod enc Try.prog w base spare held n 4 (([v0, v1, v2].drop 2).take (Try.prog.cellsOf 4)) = some y2 := hf 2 _ rfl
      rw [cells4] at g0 g2
      rw [cells9] at g1
      obtain ⟨s, hs, _⟩ := DataW.trod_bool Try.underlying4 g0
      obtain ⟨b, hb, _, hsz⟩ := DataW.trod_string Try.underlying9 g1
      obtain ⟨t, ht, _⟩ := DataW.trod_bool Try.underlying4 g2
      simp at hs hb ht
      subst hs hb ht
      exact ⟨⟨s, b, t⟩, rfl, hsz⟩

theorem open_ips {fuel : Nat} {a : Option Addr} {len cap : Nat} {x : DataW H × List MemPlace} (h : DataW.trod enc Try.prog w base spare held fuel 31 [.slice a len cap] = some x) :
    ∃ f, IsRow w a len f := by
  rcases DataW.trod_slice Try.underlying31 h with ⟨h0, _⟩ | ⟨ad, l, c, elems, rest, n, _, hcs, _, _, hl, hm, hlen, hel, _, _⟩
  · simp at h0
    obtain ⟨rfl, rfl, rfl⟩ := h0
    exact ⟨fun _ => ⟨false, ByteArray.empty, false⟩, Nat.zero_le _, .inl rfl, fun j hj => by omega⟩
  · simp at hcs
    obtain ⟨rfl, rfl, rfl⟩ := hcs
    have each : ∀ i, i < len → ∃ y : IP, (w.cell? ((ad.add (i * 3)).add 0) = some (.bool y.s) ∧ w.cell? ((ad.add (i * 3)).add 1) = some (.string y.b) ∧ w.cell? ((ad.add (i * 3)).add 2) = some (.bool y.t)) ∧ y.b.size ≤ maxLen := by
      intro i hi
      have he := hel i hi
      rw [List.getElem?_eq_getElem (by omega), cells41, Option.bind_eq_some_iff] at he
      obtain ⟨cs', h1, h2⟩ := he
      obtain ⟨y, rfl, hsz⟩ := open_ip h2
      have h3 := (World.cells?_some h1).2.2
      exact ⟨y, ⟨h3 0 (by omega), h3 1 (by omega), h3 2 (by omega)⟩, hsz⟩
    refine ⟨fun i => if hi : i < len then Classical.choose (each i hi) else ⟨false, ByteArray.empty, false⟩, by omega, ?_, fun j hj => ?_⟩
    · by_cases h0 : len = 0
      · exact .inl h0
      · obtain ⟨b, off, spot⟩ := ad
        have hspot : spot = none := by
          have := (Classical.choose_spec (each 0 (by omega))).1.1
          simpa [Addr.add] using World.cell?_spot this
        subst hspot
        have hat : ∀ i, (hi : i < len) → w.cell? ⟨b, off + i * 3, none⟩ = some (.bool (Classical.choose (each i hi)).s) ∧ w.cell? ⟨b, off + i * 3 + 1, none⟩ = some (.string (Classical.choose (each i hi)).b) ∧ w.cell? ⟨b, off + i * 3 + 2, none⟩ = some (.bool (Classical.choose (each i hi)).t) := by
          intro i hi
          have := (Classical.choose_spec (each i hi)).1
          simpa only [add_plain, Nat.add_zero] using this
        refine .inr ⟨b, off, rfl, World.block_lt_of_cell? w _ (hat 0 (by omega)).1, fun j hj => ?_⟩
        simp only [dif_pos hj]
        exact hat j hj
    · simp only [dif_pos hj]
      exact (Classical.choose_spec (each j hj)).2
end

/-! ### STEP 1: THE WALK -/
theorem walk (o : Bool) (a1 a2 : Option Addr) (l1 c1 l2 c2 : Nat) (f1 f2 : Nat → IP) (n : ByteArray) (w : World) (w1 : IsRow w a1 l1 f1) (w2 : IsRow w a2 l2 f2) (w3 : n.size ≤ maxLen) :
    Calls Try.prog 9 #[.bool o, .slice a1 l1 c1, .slice a2 l2 c2, .string n] w fun e w' => e = .returned (.bool true) ∧ Below w.heap.size w w' :=
  lawQ_on o a1 a2 l1 c1 l2 c2 f1 f2 n w w3 w1.1 w2.1 w1.2.1 w2.2.1 w1.2.2 w2.2.2

/-! ### THE ROW's STEP -/
set_option maxRecDepth 100000 in
theorem lifted (os : Os) (started : os.Started) (H : Type) (enc : TypeId × Value → H) :
    ReturnsInHanded {} Try.checked os 9 .any (Rows.fnAcceptsAgreesWithCountModelSpec.pre6 enc Try.prog Try.f9 Rows.fnAcceptsAgreesWithCountModelRow.domain false) (Rows.fnAcceptsAgreesWithCountModelSpec.post enc Try.prog Try.f9 false true false false) := by
  refine returnsInHanded_of_change (C := Try.checked) own started (by kernel_rfl) Try.func9
    (ChangeSpec.witness6 (enc := enc) (C := Try.checked) false ⟨#[], #[.bool false, .slice none 0 0, .slice none 0 0, .string ByteArray.empty], []⟩ 8 (by kernel_rfl) (by kernel_rfl) (by kernel_rfl) (by kernel_rfl)) ?_
  intro W base args ds gs before hval0 hW hcnd _
  have hval : ∀ (j : Nat) t v, Try.f9.params[j]? = some t → args[j]? = some v → Value.okWide Try.prog W .any base t v := hval0
  have hW' := hW
  obtain ⟨p, q, hA0, hV, rfl, hfz, hnd⟩ := hW
  have hA : DataW.TrodAll enc Try.prog W 0 (fun _ => true) true Try.f9.params.toList args.toList ds p := hA0
  rw [Try.params9] at hA hval
  obtain ⟨v0, vs0, d0, ds0, p0, q0, hargs, rfl, rfl, h0, r0⟩ := trodAll_cons hA
  obtain ⟨v1, vs1, d1, ds1, p1, q1, rfl, rfl, rfl, h1, r1⟩ := trodAll_cons r0
  obtain ⟨v2, vs2, d2, ds2, p2, q2, rfl, rfl, rfl, h2, r2⟩ := trodAll_cons r1
  obtain ⟨v3, vs3, d3, ds3, p3, q3, rfl, rfl, rfl, h3, r3⟩ := trodAll_cons r2
  obtain ⟨rfl, rfl, rfl⟩ := trodAll_nil r3
  obtain rfl : args = #[v0, v1, v2, v3] := by cases args; simp_all
  obtain ⟨rfl, rfl⟩ := trodVars_none hV
  obtain ⟨a0, rfl, rfl, rfl⟩ := open_bool Try.underlying4 (hval 0 4 v0 rfl rfl) h0
  obtain ⟨a1, len1, cap1, rfl⟩ := okWide_slice Try.underlying31 (hval 1 31 v1 rfl rfl)
  obtain ⟨a2, len2, cap2, rfl⟩ := okWide_slice Try.underlying31 (hval 2 31 v2 rfl rfl)
  obtain ⟨a3, rfl, rfl, rfl, w3⟩ := open_string Try.underlying9 (hval 3 9 v3 rfl rfl) h3
  have k1 := h1
  have k2 := h2
  have lt1 : ∀ x ∈ p1, x.block < W.heap.size := by obtain ⟨m, hm⟩ := k1; exact DataW.trod_lt m _ _ _ hm
  have lt2 : ∀ x ∈ p2, x.block < W.heap.size := by obtain ⟨m, hm⟩ := k2; exact DataW.trod_lt m _ _ _ hm
  obtain ⟨f1, w1⟩ : ∃ f, IsRow W a1 len1 f := by
    obtain ⟨fuel, hf⟩ := h1
    exact open_ips hf
  obtain ⟨f2, w2⟩ : ∃ f, IsRow W a2 len2 f := by
    obtain ⟨fuel, hf⟩ := h2
    exact open_ips hf
  clear hA0 hval0
  refine (walk a0 a1 a2 len1 cap1 len2 cap2 f1 f2 a3 W w1 w2 w3).mono fun e W' ⟨he, bel⟩ => ?_
  subst he
  exact ⟨_, rfl, _, _, _, [], _, [], hW', trodAll_mk1 (shut_bool Try.underlying4 _), (trodAll_cons_mk (shut_bool Try.underlying4 _) (trodAll_cons_mk (Below.trod laidOut (by kernel_rfl) (of_decide_eq_true (by kernel_rfl)) k1 bel lt1) (trodAll_cons_mk (Below.trod laidOut (by kernel_rfl) (of_decide_eq_true (by kernel_rfl)) k2 bel lt2) (trodAll_cons_mk (shut_string Try.underlying9 w3) trodAll_mk0)))), rfl, bel.frame _, fun h => by cases h⟩

theorem closed : joinedFacts Try.prog 9 Try.f9 Rows.fnAcceptsAgreesWithCountModelSpec Rows.fnAcceptsAgreesWithCountModelRow = true := by
  rw [joinedFacts, headEnters, headLifted, headMake]
  refine Eq.trans ?_ (rfl : true = true)
  kernel_rfl

theorem over : Rows.fnAcceptsAgreesWithCountModelRow.holds Try.pinned (OpenSpec.ofChange Rows.fnAcceptsAgreesWithCountModelSpec) :=
  OpenClaim.holds_of_wide 9 Try.f9 rfl rfl rfl rfl rfl rfl rfl ⟨rfl, rfl, rfl, rfl, rfl⟩ rfl rfl rfl rfl rfl (by kernel_rfl) Try.func9 closed
    (of_decide_eq_true (by kernel_rfl)) (by unfold Func.isWrapper; first | (rw [if_pos (by decide +kernel)]; kernel_rfl) | (rw [if_neg (by decide +kernel)]; exact ⟨rfl, rfl⟩))
    (fun os started H enc _ => lifted os started H enc)

/-- ████ THE STATEMENT ████ -/
theorem proved : Rows.FnAcceptsAgreesWithCountModelSaid := over
#print axioms proved
end Go.Proofs.Qxb6600890a.fnAcceptsAgreesWithCountModel
