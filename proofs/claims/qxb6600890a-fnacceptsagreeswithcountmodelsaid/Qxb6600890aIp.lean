/-
  SEAT b6600890a: stdModel, lastSlash, matchModel, ipModel.
-/
import Derived.Test.Qxb6600890aPlain
import Derived.Deep.LoopGhost
namespace Go.Proofs.Qxb6600890a
open Go.RowKit

/-- No dot ahead of the first slash. -/
def stdL : List UInt8 → Bool
  | [] => true
  | c :: l => if c == 47 then true else if c == 46 then false else stdL l
theorem stdL_drop (n : ByteArray) (k : Nat) (h : k < n.size) : stdL (n.data.toList.drop k) = if (((n[k].toNat : Nat) : Int) == 47) = true then true else if (((n[k].toNat : Nat) : Int) == 46) = true then false else stdL (n.data.toList.drop (k + 1)) := by
  have hl : k < n.data.toList.length := by rw [len_eq]; exact h
  rw [List.drop_eq_getElem_cons hl, stdL]
  have e : n.data.toList[k] = n[k] := rfl
  rw [e, byte_int, byte_int]
  rfl

set_option maxHeartbeats 400000 in
theorem std_any (n : ByteArray) (w : World) (hm : n.size ≤ 1048576) : Calls Try.prog 39 #[.string n] w fun e w' => e = .returned (.bool (stdL n.data.toList)) ∧ w' = w := by
  obtain ⟨R, hR⟩ : ∃ R, R = stdL n.data.toList := ⟨_, rfl⟩
  rw [← hR]
  have HR : Hid (stdL (n.data.toList.drop 0) = R) := hR.symm
  clear hR
  go_enter Try.func39, Try.ntmps39
  go_wp2
  go_loopg [3] n.size (fun gk i wr => ∃ k : Nat, Hid (gk = n.size - k) ∧ k ≤ n.size ∧ i = .int .i64 k ∧ Hid (stdL (n.data.toList.drop k) = R) ∧ wr = w)
  case atStart => exact ⟨0, rfl, Nat.zero_le _, rfl, HR, rfl⟩
  case round =>
    obtain ⟨k, HG, hk, rfl, HC, hwr⟩ := hrel
    obtain rfl := hwr.symm
    by_cases hlt : k < n.size
    · have hs := stdL_drop n k hlt
      cases hc : (((n[k].toNat : Nat) : Int) == 47) with
      | true =>
        have HN : Hid (true = R) := by rw [hc, if_pos rfl] at hs; exact hs.symm.trans HC.out
        clear hs
        go_wp2
        go_ret
        exact ⟨ret_bool HN.out, rfl⟩
      | false =>
        rw [hc, if_neg (by decide)] at hs
        cases hd : (((n[k].toNat : Nat) : Int) == 46) with
        | true =>
          have HN : Hid (false = R) := by rw [hd, if_pos rfl] at hs; exact hs.symm.trans HC.out
          clear hs
          go_wp2
          go_ret
          exact ⟨ret_bool HN.out, rfl⟩
        | false =>
          have HN : Hid (stdL (n.data.toList.drop (k + 1)) = R) := by rw [hd, if_neg (by decide)] at hs; exact hs.symm.trans HC.out
          clear hs
          go_wp2
          go_roundg (n.size - (k + 1))
          case measure => have := HG.out; omega
          case rel => exact ⟨k + 1, rfl, by omega, by go_num, HN, rfl⟩
    · obtain rfl : k = n.size := by omega
      have HN : Hid (true = R) := by
        have h := HC.out
        rw [← len_eq, List.drop_length] at h
        exact h
      go_wp2
      go_ret
      exact ⟨ret_bool HN.out, rfl⟩

/-- r is the last slash's place, or -1. -/
def LastAt (n : ByteArray) (r : Int) : Prop :=
  (r = -1 ∧ ∀ j : Nat, n.data.toList[j]? ≠ some 47) ∨ ∃ i : Nat, r = i ∧ i < n.size ∧ n.data.toList[i]? = some 47 ∧ ∀ j : Nat, i < j → n.data.toList[j]? ≠ some 47

set_option maxHeartbeats 400000 in
theorem last_any (n : ByteArray) (w : World) (hm : n.size ≤ 1048576) : Calls Try.prog 36 #[.string n] w fun e w' => (∃ r : Int, e = .returned (.int .i64 r) ∧ LastAt n r) ∧ w' = w := by
  have k0 : IntKind.i64.wrap ((n.size : Int) - 1) = (n.size : Int) - 1 := by rw [IntKind.wrap_i64]; omega
  go_enter Try.func36, Try.ntmps36
  go_wp2
  go_loopg [3] n.size (fun gk i wr => ∃ k : Nat, Hid (gk = k) ∧ k ≤ n.size ∧ i = .int .i64 ((k : Int) - 1) ∧ Hid (∀ j : Nat, k ≤ j → n.data.toList[j]? ≠ some 47) ∧ wr = w)
  case atStart =>
    refine ⟨n.size, rfl, Nat.le_refl _, rfl, fun j hj he => ?_, rfl⟩
    have := (List.getElem?_eq_some_iff.1 he).1
    rw [len_eq] at this
    omega
  case round =>
    obtain ⟨k, HG, hk, rfl, HC, hwr⟩ := hrel
    obtain rfl := hwr.symm
    by_cases h0 : k = 0
    · subst h0
      have HC0 : Hid (∀ j : Nat, n.data.toList[j]? ≠ some 47) := fun j => HC.out j (Nat.zero_le _)
      go_wp2
      go_ret
      exact ⟨⟨_, rfl, .inl ⟨rfl, HC0.out⟩⟩, rfl⟩
    · obtain ⟨q, rfl⟩ : ∃ q, k = q + 1 := ⟨k - 1, by omega⟩
      have hq : (((q + 1 : Nat) : Int) - 1) = (q : Int) := by omega
      rw [hq]
      have hlt : q < n.size := by omega
      have hb := byte_at n q hlt 47
      cases hc : (((n[q].toNat : Nat) : Int) == 47) with
      | true =>
        have h6 : n.data.toList[q]? = some 47 := by
          rw [show (((n[q].toNat : Nat) : Int) == ((47 : UInt8).toNat : Nat)) = true from hc] at hb
          simpa using hb
        have HF : Hid (n.data.toList[q]? = some 47) := h6
        clear hb h6 hq
        go_wp2
        go_ret
        exact ⟨⟨_, rfl, .inr ⟨q, rfl, hlt, HF.out, fun j hj => HC.out j (by omega)⟩⟩, rfl⟩
      | false =>
        have h6 : n.data.toList[q]? ≠ some 47 := by
          rw [show (((n[q].toNat : Nat) : Int) == ((47 : UInt8).toNat : Nat)) = false from hc] at hb
          simpa using hb
        have HN : Hid (∀ j : Nat, q ≤ j → n.data.toList[j]? ≠ some 47) := fun j hj => by
          by_cases hjq : j = q
          · subst hjq; exact h6
          · exact HC.out j (by omega)
        clear hb h6 hq
        go_wp2
        go_roundg q
        case measure => have := HG.out; omega
        case rel => exact ⟨q, rfl, by omega, by go_num, HN, rfl⟩

theorem mm_eq (b n : ByteArray) (t : Bool) (w : World) (h : (n.toList == b.toList) = true) : Calls Try.prog 15 #[.string b, .bool t, .string n] w fun e w' => e = .returned (.bool true) ∧ w' = w := by
  go_enter Try.func15, Try.ntmps15
  go_wp2
  go_ret
  exact ⟨rfl, rfl⟩
theorem mm_flat (b n : ByteArray) (w : World) (h : (n.toList == b.toList) = false) : Calls Try.prog 15 #[.string b, .bool false, .string n] w fun e w' => e = .returned (.bool false) ∧ w' = w := by
  go_enter Try.func15, Try.ntmps15
  go_wp2
  go_ret
  exact ⟨rfl, rfl⟩
theorem mm_dot (b n : ByteArray) (w : World) (h : (n.toList == b.toList) = false) (h2 : (b.toList == [46]) = true) : Calls Try.prog 15 #[.string b, .bool true, .string n] w fun e w' => e = .returned (.bool true) ∧ w' = w := by
  go_enter Try.func15, Try.ntmps15
  go_wp2
  go_ret
  exact ⟨rfl, rfl⟩

/-- The base leads the name, a slash behind it. -/
def under (b n : ByteArray) : Bool := decide (b.size < n.size) && ((n.data.toList[b.size]? == some 47) && ((n.extract 0 b.size).toList == b.toList))
theorem under_iff (b n : ByteArray) : under b n = true ↔ n.data.toList[b.size]? = some 47 ∧ n.extract 0 b.size = b := by
  unfold under
  simp only [Bool.and_eq_true, decide_eq_true_eq, beq_iff_eq]
  constructor
  · exact fun ⟨_, h2, h3⟩ => ⟨h2, data_ext (beq_iff_eq.2 h3)⟩
  · refine fun ⟨h2, h3⟩ => ⟨?_, h2, by rw [h3]⟩
    have := (List.getElem?_eq_some_iff.1 h2).1
    rw [len_eq] at this
    exact this
theorem under_no (b n : ByteArray) (h : ∀ j : Nat, n.data.toList[j]? = some 47 → n.extract 0 j ≠ b) : under b n = false := by
  cases hu : under b n with
  | false => rfl
  | true => exact absurd ((under_iff b n).1 hu).2 (h _ ((under_iff b n).1 hu).1)

set_option maxHeartbeats 400000 in
theorem mm_walk (b n : ByteArray) (w : World) (hm : n.size ≤ 1048576) (h : (n.toList == b.toList) = false) (h2 : (b.toList == [46]) = false) : Calls Try.prog 15 #[.string b, .bool true, .string n] w fun e w' => e = .returned (.bool (under b n)) ∧ w' = w := by
  obtain ⟨R, hR⟩ : ∃ R, R = under b n := ⟨_, rfl⟩
  rw [← hR]
  have HR : Hid (under b n = R) := hR.symm
  clear hR
  go_enter Try.func15, Try.ntmps15
  go_wp2
  go_loopg [7] n.size (fun gk c wr => ∃ s : ByteArray, gk = s.size ∧ c = .string s ∧ s.size ≤ n.size ∧ Hid (s = n.extract 0 s.size ∧ ∀ j : Nat, s.size ≤ j → n.data.toList[j]? = some 47 → n.extract 0 j ≠ b) ∧ wr = w)
  case atStart =>
    refine ⟨n, rfl, rfl, Nat.le_refl _, ⟨?_, fun j hj he => ?_⟩, rfl⟩
    · refine (data_ext ?_).symm
      rw [beq_iff_eq, ByteArray.toList_eq, ByteArray.toList_eq, ext_list, List.drop_zero, Nat.sub_zero, ← len_eq, List.take_length]
    · have := (List.getElem?_eq_some_iff.1 he).1
      rw [len_eq] at this
      omega
  case round =>
    obtain ⟨s, rfl, rfl, hs, HC, hwr⟩ := hrel
    obtain rfl := hwr.symm
    by_cases h0 : s.size = 0
    · have HF : Hid (false = R) := by
        rw [← HR.out]
        exact (under_no b n fun j he => HC.out.2 j (by omega) he).symm
      have d : decide ((0 : Int) < (s.size : Int)) = false := decide_eq_false (by omega)
      go_wp2
      go_ret
      exact ⟨ret_bool HF.out, rfl⟩
    · have d : decide ((0 : Int) < (s.size : Int)) = true := decide_eq_true (by omega)
      go_wp2_with fail
      refine (last_any s _ (by omega)).mono ?_
      rintro e w' ⟨⟨r, rfl, hr⟩, hw'⟩
      obtain rfl := hw'.symm
      rcases hr with ⟨rfl, hno⟩ | ⟨i, rfl, hi, hat, hno⟩
      · have HF : Hid (false = R) := by
          rw [← HR.out]
          refine (under_no b n fun j he => ?_).symm
          by_cases hj : s.size ≤ j
          · exact HC.out.2 j hj he
          · refine absurd ?_ (hno j)
            rw [HC.out.1, ext_get _ _ _ _ (by omega), Nat.zero_add]
            exact he
        clear hno
        go_wp2
        go_ret
        exact ⟨ret_bool HF.out, rfl⟩
      · have hcut : s.extract 0 i = n.extract 0 i := by
          refine data_ext ?_
          rw [beq_iff_eq, ByteArray.toList_eq, ByteArray.toList_eq, ext_list, ext_list, HC.out.1, ext_list, List.drop_zero, List.drop_zero, List.take_take]
          congr 1
          omega
        have hat' : n.data.toList[i]? = some 47 := by
          rw [HC.out.1, ext_get _ _ _ _ (by omega), Nat.zero_add] at hat
          exact hat
        have hsz : (s.extract 0 i).size = i := ext_size s i (by omega)
        obtain ⟨s', hs'⟩ : ∃ s', s' = s.extract 0 i := ⟨_, rfl⟩
        rw [← hs'] at hcut hsz
        have HS : Hid (s.extract 0 i = s') := hs'.symm
        have HAT : Hid (n.data.toList[i]? = some 47) := hat'
        have HCUT : Hid (s' = n.extract 0 i) := hcut
        have HNO : Hid (∀ j : Nat, i < j → j < s.size → n.data.toList[j]? ≠ some 47) := fun j hj hj2 he => hno j hj (by rw [HC.out.1, ext_get _ _ _ _ (by omega), Nat.zero_add]; exact he)
        have k1 : (i : Int) ≤ (s.size : Int) := by omega
        have hs'' : s.extract 0 i = s' := hs'.symm
        clear hno hat hat' hcut hs'
        cases hb : (s'.toList == b.toList) with
        | true =>
          have HT : Hid (true = R) := by
            rw [← HR.out]
            refine ((under_iff b n).2 ?_).symm
            have e := data_ext hb
            rw [← e, hsz]
            exact ⟨HAT.out, HCUT.out.symm⟩
          go_wp2
          go_ret
          exact ⟨ret_bool HT.out, rfl⟩
        | false =>
          go_wp2
          go_roundg s'.size
          case measure => omega
          case rel =>
            refine ⟨s', rfl, rfl, by omega, ⟨by rw [hsz]; exact HCUT.out, fun j hj he => ?_⟩, rfl⟩
            by_cases hji : j = i
            · subst hji
              intro hx
              rw [beq_eq_false_iff_ne] at hb
              exact hb (by rw [HCUT.out, hx])
            · by_cases hjs : j < s.size
              · exact absurd he (HNO.out j (by omega) hjs)
              · exact HC.out.2 j (by omega) he

theorem matchModel_any (b n : ByteArray) (t : Bool) (w : World) (hm : n.size ≤ 1048576) : Calls Try.prog 15 #[.string b, .bool t, .string n] w fun e w' => e = .returned (.bool (matchB b t n)) ∧ w' = w := by
  unfold matchB
  cases h : (n.toList == b.toList) with
  | true => exact mm_eq b n t w h
  | false =>
    cases t with
    | false => exact mm_flat b n w h
    | true =>
      cases h2 : (b.toList == [46]) with
      | true => exact mm_dot b n w h h2
      | false => exact mm_walk b n w hm h h2

/-- An import pattern as the law hands it in. -/
structure IP where
  s : Bool
  b : ByteArray
  t : Bool
def ipB (x : IP) (n : ByteArray) : Bool := if x.s = true then stdL n.data.toList else matchB x.b x.t n

theorem ipModel_any (x : IP) (n : ByteArray) (w : World) (hm : n.size ≤ 1048576) : Calls Try.prog 27 #[.agg #[.bool x.s, .string x.b, .bool x.t], .string n] w fun e w' => e = .returned (.bool (ipB x n)) ∧ Grew w w' := by
  obtain ⟨s, b, t⟩ := x
  unfold ipB
  cases s with
  | true =>
    rw [if_pos rfl]
    go_enter Try.func27, Try.ntmps27
    go_wp2_with (go_at_call 39; refine (std_any _ _ hm).mono ?_; rintro e w' ⟨rfl, hw'⟩; obtain rfl := hw'.symm)
    go_ret
    exact ⟨rfl, Grew.alloc _ _⟩
  | false =>
    rw [if_neg Bool.false_ne_true]
    go_enter Try.func27, Try.ntmps27
    go_wp2_with (go_at_call 15; refine (matchModel_any _ _ _ _ hm).mono ?_; rintro e w' ⟨rfl, hw'⟩; obtain rfl := hw'.symm)
    go_ret
    exact ⟨rfl, Grew.alloc _ _⟩
end Go.Proofs.Qxb6600890a
