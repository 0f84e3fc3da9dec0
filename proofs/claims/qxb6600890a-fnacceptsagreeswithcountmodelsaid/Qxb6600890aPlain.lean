/-
  SEAT b6600890a: unit at every name that the pattern matches; what it answers, plainly.
-/
import Derived.Test.Qxb6600890aLib
import Derived.Lib.IndexLaws
namespace Go.Proofs.Qxb6600890a
open Go.RowKit

theorem len_eq (n : ByteArray) : n.data.toList.length = n.size := Array.length_toList
theorem data_ext {a b : ByteArray} (h : (a.toList == b.toList) = true) : a = b := by
  rw [beq_iff_eq, ByteArray.toList_eq, ByteArray.toList_eq, Array.toList_inj] at h
  exact ByteArray.ext h
theorem beq_self (a : ByteArray) : (a.toList == a.toList) = true := beq_iff_eq.2 rfl
theorem ext_list (n : ByteArray) (a b : Nat) : (n.extract a b).data.toList = (n.data.toList.drop a).take (b - a) := by
  rw [ByteArray.data_extract, Array.toList_extract, List.extract_eq_take_drop]
theorem ext_get (n : ByteArray) (a b j : Nat) (h : j < b - a) : (n.extract a b).data.toList[j]? = n.data.toList[a + j]? := by
  rw [ext_list, List.getElem?_take, if_pos h, List.getElem?_drop]
theorem ext_size (n : ByteArray) (k : Nat) (h : k ≤ n.size) : (n.extract 0 k).size = k := by rw [ByteArray.size_extract]; omega

/-- unit's answer: the name whole, or cut at the first slash from startAt on. -/
theorem unit_cases (b n : ByteArray) (hS : startAt b ≤ n.size) (hne : (n.toList == b.toList) = false) :
    (unitB b n = n ∧ Lib.indexByte (n.extract (startAt b) n.size).data.toList 47 < 0 ∧ ∀ j, startAt b ≤ j → n.data.toList[j]? ≠ some 47) ∨
    ∃ i, unitB b n = n.extract 0 (startAt b + i) ∧ Lib.indexByte (n.extract (startAt b) n.size).data.toList 47 = (i : Nat) ∧ startAt b + i < n.size ∧ n.data.toList[startAt b + i]? = some 47 ∧ ∀ j, startAt b ≤ j → j < startAt b + i → n.data.toList[j]? ≠ some 47 := by
  have hge := Lib.indexByte_ge (n.extract (startAt b) n.size).data.toList 47
  unfold unitB
  rw [hne]
  by_cases hi : Lib.indexByte (n.extract (startAt b) n.size).data.toList 47 = -1
  · refine .inl ⟨?_, by omega, fun j hj he => ?_⟩
    · rw [if_neg (by decide), if_neg (by omega)]
    · have hlt : j < n.size := by rw [← len_eq]; exact (List.getElem?_eq_some_iff.1 he).1
      refine Lib.indexByte_none hi (j - startAt b) ?_
      rw [ext_get _ _ _ _ (by omega), show startAt b + (j - startAt b) = j by omega]
      exact he
  · obtain ⟨i, hk⟩ : ∃ k : Nat, Lib.indexByte (n.extract (startAt b) n.size).data.toList 47 = (k : Int) := ⟨(Lib.indexByte (n.extract (startAt b) n.size).data.toList 47).toNat, by omega⟩
    obtain ⟨h1, h2⟩ := Lib.indexByte_some hk
    have hlt : i < n.size - startAt b := by
      have := (List.getElem?_eq_some_iff.1 h1).1
      rw [len_eq, ByteArray.size_extract] at this
      omega
    refine .inr ⟨i, ?_, hk, by omega, ?_, fun j hj hj2 he => ?_⟩
    · rw [if_neg (by decide), if_pos (by omega), hk]
      rfl
    · rw [ext_get _ _ _ _ hlt] at h1
      exact h1
    · refine h2 (j - startAt b) (by omega) ?_
      rw [ext_get _ _ _ _ (by omega), show startAt b + (j - startAt b) = j by omega]
      exact he

/-- No slash from startAt on: unit answers the name. -/
theorem unit_whole (b n : ByteArray) (hS : (n.toList == b.toList) = true ∨ startAt b ≤ n.size) (h : (n.toList == b.toList) = true ∨ ∀ j, startAt b ≤ j → n.data.toList[j]? ≠ some 47) : unitB b n = n := by
  cases hne : (n.toList == b.toList) with
  | true => unfold unitB; rw [if_pos hne]
  | false =>
    rw [hne] at hS h
    rcases unit_cases b n (by simpa using hS) hne with ⟨h1, _⟩ | ⟨i, h1, _, h2, h3, _⟩
    · exact h1
    · exact absurd h3 ((by simpa using h : ∀ j, startAt b ≤ j → ¬ n.data.toList[j]? = some 47) _ (by omega))

/-- What Match says of a name that is not the base. -/
theorem match_split (b n : ByteArray) (t : Bool) (hM : matchB b t n = true) (hne : (n.toList == b.toList) = false) :
    t = true ∧ ((b.toList == [46]) = true ∨ (b.toList == [46]) = false ∧ b.size < n.size ∧ n.data.toList[b.size]? = some 47 ∧ (n.extract 0 b.size).toList = b.toList) := by
  unfold matchB at hM
  rw [hne] at hM
  simp only [Bool.false_or, Bool.and_eq_true, Bool.or_eq_true, decide_eq_true_eq] at hM
  refine ⟨hM.1, ?_⟩
  cases h : (b.toList == [46]) with
  | true => exact .inl rfl
  | false =>
    rw [h] at hM
    simp only [beq_iff_eq, Bool.false_eq_true, false_or] at hM
    exact .inr ⟨rfl, hM.2.1, hM.2.2.1, hM.2.2.2⟩

theorem match_start (b n : ByteArray) (t : Bool) (hM : matchB b t n = true) : (n.toList == b.toList) = true ∨ startAt b ≤ n.size := by
  cases hne : (n.toList == b.toList) with
  | true => exact .inl rfl
  | false =>
    refine .inr ?_
    unfold startAt
    rcases (match_split b n t hM hne).2 with h | ⟨h, h1, _⟩
    · rw [if_pos h]; omega
    · rw [h, if_neg (by decide)]; omega

theorem unit_any (b n : ByteArray) (t : Bool) (w : World) (hm : n.size ≤ 1048576) (hS : (n.toList == b.toList) = true ∨ startAt b ≤ n.size) :
    Calls Try.prog 37 #[pat b t, .string n] w fun e w' => e = .returned (.string (unitB b n)) ∧ Grew w w' := by
  cases hne : (n.toList == b.toList) with
  | true => unfold unitB; rw [if_pos hne]; exact unit_eq b n t w hne
  | false =>
    rw [hne] at hS
    have hS' : startAt b ≤ n.size := by simpa using hS
    have hcs := unit_cases b n hS' hne
    cases h : (b.toList == [46]) with
    | true =>
      have e0 : startAt b = 0 := by unfold startAt; rw [if_pos h]
      rw [e0] at hcs
      have e1 : n.extract 0 n.size = n := by
        refine data_ext ?_
        rw [beq_iff_eq, ByteArray.toList_eq, ByteArray.toList_eq, ext_list, List.drop_zero, Nat.sub_zero, ← len_eq, List.take_length]
      rw [e1] at hcs
      rcases hcs with ⟨h1, h2, _⟩ | ⟨i, h1, h2, h3, _⟩
      · rw [h1]; exact unit_dot_no b n t w _ hne h rfl h2
      · rw [h1, Nat.zero_add]; exact unit_dot_yes b n t w i hm hne h h2 (by omega)
    | false =>
      have e0 : startAt b = b.size + 1 := by unfold startAt; rw [h]; rfl
      rw [e0] at hcs hS'
      rcases hcs with ⟨h1, h2, _⟩ | ⟨i, h1, h2, h3, _⟩
      · rw [h1]; exact unit_sub_no b n t w _ hm hS' hne h rfl h2
      · rw [h1]; exact unit_sub_yes b n t w i hm hS' hne h h2 (by omega)

theorem zzunit_any (b n : ByteArray) (t : Bool) (w : World) (hm : n.size ≤ 1048576) (hS : (n.toList == b.toList) = true ∨ startAt b ≤ n.size) :
    Calls Try.prog 19 #[pat b t, .string n] w fun e w' => e = .returned (.string (unitB b n)) ∧ Grew w w' := by
  have H : Hid (∀ w, Calls Try.prog 37 #[.agg #[.string b, .bool t], .string n] w fun e w' => e = .returned (.string (unitB b n)) ∧ Grew w w') := fun w => unit_any b n t w hm hS
  unfold pat
  clear hS
  go_enter Try.func19, Try.ntmps19
  go_wp2_with fail
  refine (H.out _).mono ?_
  rintro e w' ⟨rfl, hg⟩
  have HG : Hid (Grew w w') := (Grew.alloc _ _).trans hg
  clear hg
  go_wp2
  go_ret
  exact ⟨rfl, HG.out⟩

/-- THE LAW's PLAIN WORD: what unit answers is matched, is the name's leading part up to a slash, and its own unit. -/
theorem unit_lead (b n : ByteArray) (t : Bool) (hM : matchB b t n = true) :
    matchB b t (unitB b n) = true ∧ unitB b (unitB b n) = unitB b n ∧ (unitB b n).size ≤ n.size ∧
      ((unitB b n).toList == n.toList) = true ∨
    matchB b t (unitB b n) = true ∧ unitB b (unitB b n) = unitB b n ∧ ((unitB b n).toList == n.toList) = false ∧ (unitB b n).size < n.size ∧ ((n.extract 0 (unitB b n).size).toList == (unitB b n).toList) = true ∧ n.data.toList[(unitB b n).size]? = some 47 := by
  have hst := match_start b n t hM
  by_cases hw : unitB b n = n
  · refine .inl ?_
    rw [hw, hw]
    exact ⟨hM, rfl, Nat.le_refl _, beq_self n⟩
  · refine .inr ?_
    cases hne : (n.toList == b.toList) with
    | true => exact absurd (by unfold unitB; rw [if_pos hne]) hw
    | false =>
      rw [hne] at hst
      rcases unit_cases b n (by simpa using hst) hne with ⟨h1, _⟩ | ⟨i, h1, _, h2, h3, h4⟩
      · exact absurd h1 hw
      · obtain ⟨k, hk⟩ : ∃ k, k = startAt b + i := ⟨_, rfl⟩
        rw [← hk] at h1 h2 h3 h4
        rw [h1]
        have hsz : (n.extract 0 k).size = k := ext_size n k (by omega)
        have hnn : ((n.extract 0 k).toList == n.toList) = false := by
          rw [beq_eq_false_iff_ne]
          intro he
          have := congrArg List.length he
          rw [ByteArray.toList_eq, ByteArray.toList_eq, len_eq, len_eq, hsz] at this
          omega
        have hno : ∀ j, startAt b ≤ j → (n.extract 0 k).data.toList[j]? ≠ some 47 := by
          intro j hj he
          have hlt : j < k := by rw [← hsz, ← len_eq]; exact (List.getElem?_eq_some_iff.1 he).1
          rw [ext_get _ _ _ _ (by omega), Nat.zero_add] at he
          exact h4 j hj hlt he
        refine ⟨?_, unit_whole b _ (.inr (by omega)) (.inr hno), hnn, by omega, by rw [hsz]; exact beq_self _, by rw [hsz]; exact h3⟩
        obtain ⟨ht, hor⟩ := match_split b n t hM hne
        unfold matchB
        rw [ht]
        rcases hor with h | ⟨h, g1, g2, g3⟩
        · rw [h]; simp
        · have e0 : startAt b = b.size + 1 := by unfold startAt; rw [h]; rfl
          have hkb : b.size < k := by omega
          have e1 : (n.extract 0 k).data.toList[b.size]? = some 47 := by rw [ext_get _ _ _ _ (by omega), Nat.zero_add]; exact g2
          have e2 : ((n.extract 0 k).extract 0 b.size).toList = b.toList := by
            rw [← g3, ByteArray.toList_eq, ByteArray.toList_eq, ext_list, ext_list, ext_list, List.drop_zero, List.drop_zero, List.take_take]
            congr 1
            omega
          rw [e1, e2, hsz, decide_eq_true hkb]
          simp
end Go.Proofs.Qxb6600890a
