/-
  SEAT b6600890a: the bounds: zzBytes, addIPBytes.
-/
import Derived.Test.Qxb6600890aAcc
namespace Go.Proofs.Qxb6600890a
open Go.RowKit

/-- A bool comes out. -/
def BoolOut (e : Ending) : Prop := ∃ r, e = .returned (.bool r)
/-- A number comes out; a small one only where there are few elements. -/
def SumOut (m : Nat) (e : Ending) : Prop := ∃ v : Nat, e = .returned (.int .i64 v) ∧ v ≤ 4194304 ∧ (v ≤ 1048576 → m ≤ 65536)

/-- Every base is a string that Go can hold. -/
def Held (m : Nat) (f : Nat → IP) : Prop := ∀ j, j < m → (f j).b.size ≤ maxLen

set_option maxHeartbeats 1000000 in
theorem add_any (T : Nat) (ao : Option Addr) (m c : Nat) (f : Nat → IP) (w : World) (hT : T ≤ 1048576) (hm : m ≤ maxLen) (hs : Src3 w ao m f) (hh : Held m f) :
    Calls Try.prog 24 #[.int .i64 T, .slice ao m c] w fun e w' => SumOut m e ∧ w' = w := by
  have HS : Hid (Src3 w ao m f) := hs
  have HH : Hid (Held m f) := hh
  unfold maxLen at hm
  clear hs hh
  by_cases hbig : m ≤ 65536
  · have k0 : IntKind.i64.wrap (32 * (m : Int)) = ((32 * m : Nat) : Int) := by rw [IntKind.wrap_i64]; omega
    have k1 : IntKind.i64.wrap ((T : Int) + ((32 * m : Nat) : Int)) = ((T + 32 * m : Nat) : Int) := by rw [IntKind.wrap_i64]; omega
    go_enter Try.func24, Try.ntmps24
    go_wp2
    go_loopg [0, 5] m (fun gk t i wr => ∃ k U : Nat, Hid (gk = m - k) ∧ k ≤ m ∧ i = .int .i64 k ∧ t = .int .i64 U ∧ U ≤ 4194304 ∧ wr = w)
    case atStart => exact ⟨0, T + 32 * m, rfl, Nat.zero_le _, rfl, by go_num, by omega, rfl⟩
    case round =>
      clear k0 k1
      obtain ⟨k, U, HG, hk, rfl, rfl, hU, hwr⟩ := hrel
      obtain rfl := hwr.symm
      by_cases hlt : k < m
      · by_cases hU2 : U ≤ 1048576
        · rcases HS.out with h0 | ⟨b, off, hb0, hb, hc⟩
          · omega
          · subst hb0
            obtain ⟨_, hc1, _⟩ := hc k hlt
            have hsz := HH.out k hlt
            obtain ⟨s, hsd⟩ : ∃ s, s = (f k).b := ⟨_, rfl⟩
            rw [← hsd] at hc1 hsz
            unfold maxLen at hsz
            clear hc hb hsd
            by_cases h1 : s.size ≤ 1048576
            · go_wp2
              go_roundg (m - (k + 1))
              case measure => have := HG.out; omega
              case rel => exact ⟨k + 1, U + s.size, rfl, by omega, by go_num, by go_num, by omega, rfl⟩
            · go_wp2
              go_ret
              exact ⟨⟨1048577, rfl, by omega, fun _ => hbig⟩, rfl⟩
        · go_wp2
          go_ret
          exact ⟨⟨1048577, rfl, by omega, fun _ => hbig⟩, rfl⟩
      · obtain rfl : k = m := by omega
        go_wp2
        go_ret
        exact ⟨⟨U, rfl, hU, fun _ => hbig⟩, rfl⟩
  · go_enter Try.func24, Try.ntmps24
    go_wp2
    go_ret
    exact ⟨⟨1048577, rfl, by omega, fun h => by omega⟩, rfl⟩

set_option maxHeartbeats 4000000 in
theorem zz23_any (o : Bool) (a1 a2 : Option Addr) (m1 c1 m2 c2 : Nat) (f1 f2 : Nat → IP) (n : ByteArray) (w : World) (hn : n.size ≤ maxLen) (hm1 : m1 ≤ maxLen) (hm2 : m2 ≤ maxLen) (h1 : Src3 w a1 m1 f1) (h2 : Src3 w a2 m2 f2) (hh1 : Held m1 f1) (hh2 : Held m2 f2) :
    Calls Try.prog 23 #[.bool o, .slice a1 m1 c1, .slice a2 m2 c2, .string n] w fun e w' => BoolOut e ∧ w' = w := by
  have H1 : Hid (Src3 w a1 m1 f1) := h1
  have H2 : Hid (Src3 w a2 m2 f2) := h2
  have HH1 : Hid (Held m1 f1) := hh1
  have HH2 : Hid (Held m2 f2) := hh2
  unfold maxLen at hm1 hm2 hn
  clear h1 h2 hh1 hh2
  by_cases hb1 : m1 ≤ 1048576
  · go_enter Try.func23, Try.ntmps23
    go_wp2
    go_loopg [9, 10] m1 (fun gk t i wr => ∃ k U : Nat, Hid (gk = m1 - k) ∧ k ≤ m1 ∧ i = .int .i64 k ∧ t = .int .i64 U ∧ U ≤ 1048576 ∧ wr = w)
    case atStart => exact ⟨0, m1, rfl, Nat.zero_le _, rfl, rfl, hb1, rfl⟩
    case round =>
      obtain ⟨k, U, HG, hk, rfl, rfl, hU, hwr⟩ := hrel
      obtain rfl := hwr.symm
      by_cases hlt : k < m1
      · rcases H1.out with h0 | ⟨b, off, hb0, hb, hc⟩
        · omega
        · subst hb0
          obtain ⟨_, hc1, _⟩ := hc k hlt
          have hsz := HH1.out k hlt
          obtain ⟨s, hsd⟩ : ∃ s, s = (f1 k).b := ⟨_, rfl⟩
          rw [← hsd] at hc1 hsz
          unfold maxLen at hsz
          clear hc hb hsd
          by_cases h3 : s.size ≤ 1048576
          · by_cases h4 : U + s.size ≤ 1048576
            · go_wp2
              go_roundg (m1 - (k + 1))
              case measure => have := HG.out; omega
              case rel => exact ⟨k + 1, U + s.size, rfl, by omega, by go_num, by go_num, h4, rfl⟩
            · go_wp2
              go_ret
              exact ⟨⟨_, rfl⟩, rfl⟩
          · go_wp2
            go_ret
            exact ⟨⟨_, rfl⟩, rfl⟩
      · obtain rfl : k = m1 := by omega
        clear HG H1 HH1 hlt
        by_cases hb2 : m2 ≤ 1048576
        · by_cases hb3 : U + m2 ≤ 1048576
          · have k0 : IntKind.i64.wrap ((U : Int) + (m2 : Int)) = ((U + m2 : Nat) : Int) := by rw [IntKind.wrap_i64]; omega
            go_wp2
            go_loopg [9, 11] m2 (fun gk t i wr => ∃ j V : Nat, Hid (gk = m2 - j) ∧ j ≤ m2 ∧ i = .int .i64 j ∧ t = .int .i64 V ∧ V ≤ 1048576 ∧ wr = w)
            case atStart => exact ⟨0, U + m2, rfl, Nat.zero_le _, rfl, by go_num, hb3, rfl⟩
            case round =>
              clear k0
              obtain ⟨j, V, HG, hj, rfl, rfl, hV, hwr⟩ := hrel
              obtain rfl := hwr.symm
              by_cases hlt : j < m2
              · rcases H2.out with h0 | ⟨b, off, hb0, hb, hc⟩
                · omega
                · subst hb0
                  obtain ⟨_, hc1, _⟩ := hc j hlt
                  have hsz := HH2.out j hlt
                  obtain ⟨s, hsd⟩ : ∃ s, s = (f2 j).b := ⟨_, rfl⟩
                  rw [← hsd] at hc1 hsz
                  unfold maxLen at hsz
                  clear hc hb hsd
                  by_cases h3 : s.size ≤ 1048576
                  · by_cases h4 : V + s.size ≤ 1048576
                    · go_wp2
                      go_roundg (m2 - (j + 1))
                      case measure => have := HG.out; omega
                      case rel => exact ⟨j + 1, V + s.size, rfl, by omega, by go_num, by go_num, h4, rfl⟩
                    · go_wp2
                      go_ret
                      exact ⟨⟨_, rfl⟩, rfl⟩
                  · go_wp2
                    go_ret
                    exact ⟨⟨_, rfl⟩, rfl⟩
              · obtain rfl : j = m2 := by omega
                by_cases h5 : n.size ≤ 1048576
                · by_cases h6 : V + n.size ≤ 1048576
                  · go_wp2
                    go_ret
                    exact ⟨⟨_, rfl⟩, rfl⟩
                  · go_wp2
                    go_ret
                    exact ⟨⟨_, rfl⟩, rfl⟩
                · go_wp2
                  go_ret
                  exact ⟨⟨_, rfl⟩, rfl⟩
          · go_wp2
            go_ret
            exact ⟨⟨_, rfl⟩, rfl⟩
        · go_wp2
          go_ret
          exact ⟨⟨_, rfl⟩, rfl⟩
  · go_enter Try.func23, Try.ntmps23
    go_wp2
    go_ret
    exact ⟨⟨_, rfl⟩, rfl⟩
end Go.Proofs.Qxb6600890a
