/-
  SEAT b6600890a: strings.Cut at a slash, strings.Contains at a dot; ImportPattern.Match.
-/
import Derived.Test.Qxb6600890aIp
import Derived.Lib.IndexLaws
namespace Go.Proofs.Qxb6600890a
open Go.RowKit

set_option maxRecDepth 100000 in
theorem index47 (s : ByteArray) (w : World) : Calls Try.prog 47 #[.string s, .string ⟨#[47]⟩] w fun e w' => e = .returned (.int .i64 (Lib.indexByte s.data.toList 47)) ∧ w' = w := by
  by_cases hs : s.data.toList = [47]
  · rw [hs]
    have hb : (([47] : List UInt8) == s.toList) = true := by rw [ByteArray.toList_eq, hs]; rfl
    go_enter Try.func47, Try.ntmps47
    go_wp2_with fail
    go_ret
    exact ⟨rfl, rfl⟩
  · have hb : (([47] : List UInt8) == s.toList) = false := by
      rw [ByteArray.toList_eq, beq_eq_false_iff_ne]; exact fun h => hs h.symm
    go_enter Try.func47, Try.ntmps47
    go_wp2_with (go_at_call 46; refine (liteIndexByte_any _ _ _).mono ?_; rintro e w' ⟨rfl, hw'⟩; obtain rfl := hw'.symm)
    go_ret
    exact ⟨rfl, rfl⟩
set_option maxRecDepth 100000 in
theorem index46 (s : ByteArray) (w : World) : Calls Try.prog 47 #[.string s, .string ⟨#[46]⟩] w fun e w' => e = .returned (.int .i64 (Lib.indexByte s.data.toList 46)) ∧ w' = w := by
  by_cases hs : s.data.toList = [46]
  · rw [hs]
    have hb : (([46] : List UInt8) == s.toList) = true := by rw [ByteArray.toList_eq, hs]; rfl
    go_enter Try.func47, Try.ntmps47
    go_wp2_with fail
    go_ret
    exact ⟨rfl, rfl⟩
  · have hb : (([46] : List UInt8) == s.toList) = false := by
      rw [ByteArray.toList_eq, beq_eq_false_iff_ne]; exact fun h => hs h.symm
    go_enter Try.func47, Try.ntmps47
    go_wp2_with (go_at_call 46; refine (liteIndexByte_any _ _ _).mono ?_; rintro e w' ⟨rfl, hw'⟩; obtain rfl := hw'.symm)
    go_ret
    exact ⟨rfl, rfl⟩

set_option maxRecDepth 100000 in
theorem liteCut_yes (s : ByteArray) (k : Nat) (w : World) (hm : s.size ≤ 1099511627776) (hk : k < s.size) (hi : Lib.indexByte s.data.toList 47 = (k : Int)) :
    Calls Try.prog 44 #[.string s, .string ⟨#[47]⟩] w fun e w' => e = .returned (.tuple #[.string (s.extract 0 k), .string (s.extract (k + 1) s.size), .bool true]) ∧ ∃ n, w' = w.drewN n := by
  have HI : Hid (Lib.indexByte s.data.toList 47 = (k : Int)) := hi
  have k0 : (0 : Int) ≤ (k : Int) := by omega
  have k1 : (k : Int) ≤ (s.size : Int) := by omega
  have k2 : (k : Int) + 1 ≤ (s.size : Int) := by omega
  have k3 : (0 : Int) ≤ (k : Int) + 1 := by omega
  have k4 : IntKind.i64.wrap ((k : Int) + 1) = (k : Int) + 1 := by rw [IntKind.wrap_i64]; omega
  have k5 : ((k : Int) + 1).toNat = k + 1 := by omega
  clear hi
  go_enter Try.func44, Try.ntmps44
  go_wp2_with (go_at_call 47; refine (index47 _ _).mono ?_; rintro e w' ⟨rfl, hw'⟩; obtain rfl := hw'.symm; rw [HI.out])
  go_quiet (fail)
  go_wp2
  go_ret3
  exact ⟨rfl, _, rfl⟩
theorem liteCut_no (s : ByteArray) (w : World) (hi : Lib.indexByte s.data.toList 47 < 0) :
    Calls Try.prog 44 #[.string s, .string ⟨#[47]⟩] w fun e w' => e = .returned (.tuple #[.string s, .string ⟨#[]⟩, .bool false]) ∧ ∃ n, w' = w.drewN n := by
  obtain ⟨q, hq⟩ : ∃ q, q = Lib.indexByte s.data.toList 47 := ⟨_, rfl⟩
  rw [← hq] at hi
  have HI : Hid (Lib.indexByte s.data.toList 47 = q) := hq.symm
  clear hq
  go_enter Try.func44, Try.ntmps44
  go_wp2_with (go_at_call 47; refine (index47 _ _).mono ?_; rintro e w' ⟨rfl, hw'⟩; obtain rfl := hw'.symm; rw [HI.out])
  go_ret3
  exact ⟨rfl, 0, rfl⟩
theorem cut_yes (s : ByteArray) (k : Nat) (w : World) (hm : s.size ≤ 1099511627776) (hk : k < s.size) (hi : Lib.indexByte s.data.toList 47 = (k : Int)) :
    Calls Try.prog 40 #[.string s, .string ⟨#[47]⟩] w fun e w' => e = .returned (.tuple #[.string (s.extract 0 k), .string (s.extract (k + 1) s.size), .bool true]) ∧ ∃ n, w' = w.drewN n := by
  have HI : Hid (Lib.indexByte s.data.toList 47 = (k : Int)) := hi
  clear hi
  go_enter Try.func40, Try.ntmps40
  go_wp2_with fail
  refine (liteCut_yes s k w hm hk HI.out).mono ?_
  rintro e w' ⟨rfl, n, rfl⟩
  go_wp2
  go_ret3
  exact ⟨rfl, n, rfl⟩
theorem cut_no (s : ByteArray) (w : World) (hi : Lib.indexByte s.data.toList 47 < 0) :
    Calls Try.prog 40 #[.string s, .string ⟨#[47]⟩] w fun e w' => e = .returned (.tuple #[.string s, .string ⟨#[]⟩, .bool false]) ∧ ∃ n, w' = w.drewN n := by
  have HI : Hid (Lib.indexByte s.data.toList 47 < 0) := hi
  clear hi
  go_enter Try.func40, Try.ntmps40
  go_wp2_with fail
  refine (liteCut_no s w HI.out).mono ?_
  rintro e w' ⟨rfl, n, rfl⟩
  go_wp2
  go_ret3
  exact ⟨rfl, n, rfl⟩
theorem index_any (s : ByteArray) (w : World) : Calls Try.prog 45 #[.string s, .string ⟨#[46]⟩] w fun e w' => e = .returned (.int .i64 (Lib.indexByte s.data.toList 46)) ∧ w' = w := by
  go_enter Try.func45, Try.ntmps45
  go_wp2_with (go_at_call 47; refine (index46 _ _).mono ?_; rintro e w' ⟨rfl, hw'⟩; obtain rfl := hw'.symm)
  go_ret
  exact ⟨rfl, rfl⟩
theorem contains_any (s : ByteArray) (w : World) : Calls Try.prog 41 #[.string s, .string ⟨#[46]⟩] w fun e w' => e = .returned (.bool (decide (0 ≤ Lib.indexByte s.data.toList 46))) ∧ w' = w := by
  go_enter Try.func41, Try.ntmps41
  go_wp2_with (go_at_call 45; refine (index_any _ _).mono ?_; rintro e w' ⟨rfl, hw'⟩; obtain rfl := hw'.symm)
  go_ret
  exact ⟨rfl, rfl⟩

/-- The first element's dot: what Match looks for and what the model looks for. -/
theorem std_no : ∀ (l : List UInt8), Lib.indexByte l 47 = -1 → stdL l = !(decide (0 ≤ Lib.indexByte l 46))
  | [], _ => rfl
  | c :: l, h => by
    unfold Lib.indexByte at h
    split at h
    · simp at h
    · rename_i h1
      have hl : Lib.indexByte l 47 = -1 := by
        split at h
        · rename_i h2; exact beq_iff_eq.1 h2
        · have := Lib.indexByte_ge l 47; omega
      have ih := std_no l hl
      have hge := Lib.indexByte_ge l 46
      rw [stdL, if_neg h1]
      unfold Lib.indexByte
      split
      · simp
      · split
        · rename_i h4
          rw [ih, beq_iff_eq.1 h4]
        · rename_i h4
          rw [ih]
          have h5 : Lib.indexByte l 46 ≠ -1 := fun e => h4 (beq_iff_eq.2 e)
          have h6 : 0 ≤ Lib.indexByte l 46 := by omega
          have h7 : 0 ≤ Lib.indexByte l 46 + 1 := by omega
          rw [decide_eq_true h6, decide_eq_true h7]
theorem std_yes : ∀ (l : List UInt8) (k : Nat), Lib.indexByte l 47 = (k : Int) → stdL l = !(decide (0 ≤ Lib.indexByte (l.take k) 46))
  | [], k, h => by simp [Lib.indexByte] at h
  | c :: l, k, h => by
    unfold Lib.indexByte at h
    split at h
    · rename_i h1
      obtain rfl : k = 0 := by omega
      rw [stdL, if_pos h1]
      rfl
    · rename_i h1
      have hge := Lib.indexByte_ge l 47
      split at h
      · omega
      · rename_i h2
        have h3 : Lib.indexByte l 47 ≠ -1 := fun e => h2 (beq_iff_eq.2 e)
        obtain ⟨q, rfl⟩ : ∃ q, k = q + 1 := ⟨k - 1, by omega⟩
        have ih := std_yes l q (by omega)
        have hge2 := Lib.indexByte_ge (l.take q) 46
        rw [stdL, if_neg h1, List.take_succ_cons]
        unfold Lib.indexByte
        split
        · simp
        · split
          · rename_i h4
            rw [ih, beq_iff_eq.1 h4]
          · rename_i h4
            rw [ih]
            have h5 : Lib.indexByte (l.take q) 46 ≠ -1 := fun e => h4 (beq_iff_eq.2 e)
            have h6 : 0 ≤ Lib.indexByte (l.take q) 46 := by omega
            have h7 : 0 ≤ Lib.indexByte (l.take q) 46 + 1 := by omega
            rw [decide_eq_true h6, decide_eq_true h7]

/-- Cut and Contains, one behind the other. -/
theorem std_cut (n : ByteArray) (hm : n.size ≤ 1048576) : ∃ f r ok, (∀ w, Calls Try.prog 40 #[.string n, .string ⟨#[47]⟩] w fun e w' => e = .returned (.tuple #[.string f, .string r, .bool ok]) ∧ ∃ k, w' = w.drewN k) ∧ stdL n.data.toList = !(decide (0 ≤ Lib.indexByte f.data.toList 46)) := by
  have hge := Lib.indexByte_ge n.data.toList 47
  by_cases hi : Lib.indexByte n.data.toList 47 = -1
  · exact ⟨n, _, _, fun w => cut_no n w (by rw [hi]; decide), std_no _ hi⟩
  · obtain ⟨k, hk⟩ : ∃ k : Nat, Lib.indexByte n.data.toList 47 = (k : Int) := ⟨(Lib.indexByte n.data.toList 47).toNat, by omega⟩
    have hkl : k < n.size := by rw [← len_eq]; exact (List.getElem?_eq_some_iff.1 (Lib.indexByte_some hk).1).1
    refine ⟨n.extract 0 k, _, _, fun w => cut_yes n k w (by omega) hkl hk, ?_⟩
    rw [ext_list, List.drop_zero, Nat.sub_zero]
    exact std_yes _ k hk

/-- An import pattern's value. -/
def patI (x : IP) : Value := .agg #[.bool x.s, .string x.b, .bool x.t]

theorem impMatch_any (x : IP) (n : ByteArray) (w : World) (hm : n.size ≤ 1048576) : Calls Try.prog 33 #[patI x, .string n] w fun e w' => e = .returned (.bool (ipB x n)) ∧ Grew w w' := by
  obtain ⟨s, b, t⟩ := x
  unfold ipB patI
  cases s with
  | true =>
    rw [if_pos rfl]
    obtain ⟨f, r, ok, hc, hs⟩ := std_cut n hm
    rw [hs]
    have HC : Hid (∀ w, Calls Try.prog 40 #[.string n, .string ⟨#[47]⟩] w fun e w' => e = .returned (.tuple #[.string f, .string r, .bool ok]) ∧ ∃ k, w' = w.drewN k) := hc
    obtain ⟨q, hq⟩ : ∃ q, q = decide (0 ≤ Lib.indexByte f.data.toList 46) := ⟨_, rfl⟩
    rw [← hq]
    have HQ : Hid (decide (0 ≤ Lib.indexByte f.data.toList 46) = q) := hq.symm
    clear hc hs hq
    go_enter Try.func33, Try.ntmps33
    go_wp2_with fail
    refine (HC.out _).mono ?_
    rintro e w' ⟨rfl, k, rfl⟩
    go_wp2_with (go_at_call 41; refine (contains_any _ _).mono ?_; rintro e w' ⟨rfl, hw'⟩; obtain rfl := hw'.symm; rw [HQ.out])
    go_ret
    exact ⟨rfl, (Grew.alloc _ _).drewN k⟩
  | false =>
    rw [if_neg Bool.false_ne_true]
    have HM : Hid (∀ w, Calls Try.prog 14 #[.agg #[.string b, .bool t], .string n] w fun e w' => e = .returned (.bool (matchB b t n)) ∧ Grew w w') := fun w => match_any b n t w
    go_enter Try.func33, Try.ntmps33
    go_wp2_with fail
    refine (HM.out _).mono ?_
    rintro e w' ⟨rfl, hg⟩
    have HG : Hid (Grew w w') := (Grew.alloc _ _).trans hg
    clear hg
    go_wp2
    go_ret
    exact ⟨rfl, HG.out⟩

theorem zzimp_any (s t : Bool) (b : ByteArray) (w : World) : Calls Try.prog 32 #[.bool s, .string b, .bool t] w fun e w' => e = .returned (patI ⟨s, b, t⟩) ∧ w' = w.alloc (.cells #[.bool s, .string b, .bool t] 44) := by
  unfold patI
  go_enter Try.func32, Try.ntmps32
  go_wp2
  refine bodyPost_ret (v := .agg #[.bool s, .string b, .bool t]) (by simp [results, Try.results32, go_sem]) rfl ⟨rfl, rfl⟩

theorem zzimps_any (o : Bool) (a1 a2 : Option Addr) (l1 c1 l2 c2 : Nat) (w : World) : Calls Try.prog 25 #[.bool o, .slice a1 l1 c1, .slice a2 l2 c2] w fun e w' => e = .returned (.agg #[.bool o, .slice a1 l1 c1, .slice a2 l2 c2]) ∧ Grew w w' := by
  go_enter Try.func25, Try.ntmps25
  go_wp2
  refine bodyPost_ret (v := .agg #[.bool o, .slice a1 l1 c1, .slice a2 l2 c2]) (by simp [results, Try.results25, go_sem]) rfl ⟨rfl, Grew.alloc _ _⟩
end Go.Proofs.Qxb6600890a
