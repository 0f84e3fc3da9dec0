/-
  SEAT b6600069a: THE SCANNERS' WALKS.
-/
import Derived.Test.Qxb6600069aLib
import Derived.Test.Qxb6600069aScanPlain
import Derived.WalkKit
namespace Go.Proofs.Qxb6600069a
open Go.RowKit Plain

theorem ret_int {k : IntKind} {a b : Int} (h : a = b) : Ending.returned (.int k a) = .returned (.int k b) := by rw [h]

set_option maxHeartbeats 400000 in
theorem stringEnd_any (g n cap : Nat) (zs : List Int) (start : Nat) (w : World) (hn : zs.length = n) (hs : start < n) (hm : n ≤ 1099511627776)
    (hc : ∀ j, j < n → w.cell? ⟨g, j, none⟩ = some (.int .u8 (zs.getD j 0))) :
    Calls Try.prog 32 #[.slice (some ⟨g, 0, none⟩) n cap, .int .i64 start] w fun e w' => e = .returned (.int .i64 ((start + 1 + sE (zs.drop (start + 1)) : Nat) : Int)) ∧ w' = w := by
  obtain ⟨T, hT⟩ : ∃ T, T = start + 1 + sE (zs.drop (start + 1)) := ⟨_, rfl⟩
  rw [← hT]
  have HT : Hid (T = start + 1 + sE (zs.drop (start + 1))) := hT
  have HN : Hid (zs.length = n) := hn
  clear hT hn
  go_enter Try.func32, Try.ntmps32
  go_wp2
  go_loop [5] (fun i => ∃ k : Nat, i = .int .i64 k ∧ k ≤ n + 1 ∧ min k n + sE (zs.drop k) = T) (fun i => n + 2 - (intOf i).toNat)
  case atStart => exact ⟨start + 1, by go_num, by omega, by rw [HT.out]; congr 1; omega⟩
  case round =>
    obtain ⟨k, rfl, hk, hr⟩ := hrel
    have HR : Hid (min k n + sE (zs.drop k) = T) := hr
    clear hr
    by_cases hlt : k < n
    · have hcell := hc k hlt
      obtain ⟨c, hcc⟩ : ∃ c, c = zs.getD k 0 := ⟨_, rfl⟩
      rw [← hcc] at hcell
      have HC : Hid (c = zs.getD k 0) := hcc
      clear hcc hc
      by_cases h1 : c = 92
      · have e1 : (c == 92) = true := by simpa using h1
        have H1 : Hid (c = 92) := h1
        clear h1
        go_wp2
        have hn := HN.out
        have hr := HR.out
        have st := sE_esc zs k (by omega) (by rw [← HC.out]; exact H1.out)
        go_round
        case rel => exact ⟨k + 2, by go_num, by omega, by omega⟩
        case measure => simp [intOf]; omega
      · have e1 : (c == 92) = false := by simpa using h1
        by_cases h2 : c = 34
        · have e2 : (c == 34) = true := by simpa using h2
          have H2 : Hid (c = 34) := h2
          clear h1 h2
          go_wp2
          go_ret
          have hn := HN.out
          have hr := HR.out
          have st := sE_quote zs k (by omega) (by rw [← HC.out]; exact H2.out)
          exact ⟨ret_int (by omega), rfl⟩
        · have e2 : (c == 34) = false := by simpa using h2
          go_wp2
          have hn := HN.out
          have hr := HR.out
          have st := sE_else zs k (by omega) (by rw [← HC.out]; exact h1) (by rw [← HC.out]; exact h2)
          go_round
          case rel => exact ⟨k + 1, by go_num, by omega, by omega⟩
          case measure => simp [intOf]; omega
    · clear hc
      go_wp2
      go_ret
      have hn := HN.out
      have hr := HR.out
      have st := sE_nil zs k (by omega)
      exact ⟨ret_int (by omega), rfl⟩

set_option maxHeartbeats 400000 in
theorem skipSpace_any (g n cap : Nat) (zs : List Int) (start : Nat) (w : World) (hn : zs.length = n) (hs : start ≤ n) (hm : n ≤ 1099511627776)
    (hc : ∀ j, j < n → w.cell? ⟨g, j, none⟩ = some (.int .u8 (zs.getD j 0))) :
    Calls Try.prog 31 #[.slice (some ⟨g, 0, none⟩) n cap, .int .i64 start] w fun e w' => e = .returned (.int .i64 ((start + spn (zs.drop start) : Nat) : Int)) ∧ w' = w := by
  obtain ⟨T, hT⟩ : ∃ T, T = start + spn (zs.drop start) := ⟨_, rfl⟩
  rw [← hT]
  have HT : Hid (T = start + spn (zs.drop start)) := hT
  have HN : Hid (zs.length = n) := hn
  clear hT hn
  go_enter Try.func31, Try.ntmps31
  go_wp2
  go_loop [1] (fun i => ∃ k : Nat, i = .int .i64 k ∧ k ≤ n ∧ k + spn (zs.drop k) = T) (fun i => n + 2 - (intOf i).toNat)
  case atStart => exact ⟨start, by go_num, by omega, by rw [HT.out]⟩
  case round =>
    obtain ⟨k, rfl, hk, hr⟩ := hrel
    have HR : Hid (k + spn (zs.drop k) = T) := hr
    clear hr
    by_cases hlt : k < n
    · have hcell := hc k hlt
      obtain ⟨c, hcc⟩ : ∃ c, c = zs.getD k 0 := ⟨_, rfl⟩
      rw [← hcc] at hcell
      have HC : Hid (c = zs.getD k 0) := hcc
      clear hcc hc
      by_cases h1 : isSp c = true
      · have HS : Hid (isSp c = true) := h1
        have hor : (c == 32) = true ∨ ((c == 32) = false ∧ (c == 9) = true) ∨ ((c == 32) = false ∧ (c == 9) = false ∧ (c == 10) = true) ∨ ((c == 32) = false ∧ (c == 9) = false ∧ (c == 10) = false ∧ (c == 13) = true) := by
          unfold isSp at h1
          cases ha : c == 32 <;> cases hb : c == 9 <;> cases hc : c == 10 <;> cases hd : c == 13 <;> simp_all
        clear h1
        rcases hor with e1 | ⟨e1, e2⟩ | ⟨e1, e2, e3⟩ | ⟨e1, e2, e3, e4⟩
        all_goals
          go_wp2
          have hn := HN.out
          have hr := HR.out
          have st := spn_yes zs k (by omega) (by rw [← HC.out]; exact HS.out)
          go_round
          case rel => exact ⟨k + 1, by go_num, by omega, by omega⟩
          case measure => simp [intOf]; omega
      · have hs' : isSp c = false := by simpa using h1
        have HS : Hid (isSp c = false) := hs'
        have e : (c == 32) = false ∧ (c == 9) = false ∧ (c == 10) = false ∧ (c == 13) = false := by
          unfold isSp at hs'
          cases ha : c == 32 <;> cases hb : c == 9 <;> cases hc : c == 10 <;> cases hd : c == 13 <;> simp_all
        obtain ⟨e1, e2, e3, e4⟩ := e
        clear h1 hs'
        go_wp2
        go_ret
        have hn := HN.out
        have hr := HR.out
        have st := spn_no zs k (by omega) (by rw [← HC.out]; exact HS.out)
        exact ⟨ret_int (by omega), rfl⟩
    · clear hc
      go_wp2
      go_ret
      have hn := HN.out
      have hr := HR.out
      have st := spn_nil zs k (by omega)
      exact ⟨ret_int (by omega), rfl⟩

theorem dl_fin : ∀ n : Fin 256, decide (Lib.indexByte [44, 93, 125, 32, 9, 10, 13] n.val.toUInt8 < 0) = !isDl (n.val : Int) := by decide +kernel
theorem dl_index (c : Int) (h0 : 0 ≤ c) (h1 : c ≤ 255) : decide (Lib.indexByte [44, 93, 125, 32, 9, 10, 13] c.toNat.toUInt8 < 0) = !isDl c := by
  have h := dl_fin ⟨c.toNat, by omega⟩
  have e : ((c.toNat : Nat) : Int) = c := by omega
  simp only [e] at h
  exact h

set_option maxHeartbeats 400000 in
/-- A number, true, false, null. -/
theorem valueEnd_sc (g n cap : Nat) (zs : List Int) (start : Nat) (w : World) (hn : zs.length = n) (hs : start < n) (hm : n ≤ 1099511627776)
    (hb : ∀ j, 0 ≤ zs.getD j 0 ∧ zs.getD j 0 ≤ 255) (h1 : ¬ zs.getD start 0 = 34) (h2 : ¬ zs.getD start 0 = 123) (h3 : ¬ zs.getD start 0 = 91)
    (hc : ∀ j, j < n → w.cell? ⟨g, j, none⟩ = some (.int .u8 (zs.getD j 0))) :
    Calls Try.prog 30 #[.slice (some ⟨g, 0, none⟩) n cap, .int .i64 start] w fun e w' => e = .returned (.int .i64 ((start + vlen (zs.drop start) : Nat) : Int)) ∧ w' = w := by
  obtain ⟨T, hT⟩ : ∃ T, T = start + vlen (zs.drop start) := ⟨_, rfl⟩
  rw [← hT]
  rw [vlen_sc zs start (by omega) h1 (by omega)] at hT
  have HT : Hid (T = start + scal (zs.drop start)) := hT
  have HN : Hid (zs.length = n) := hn
  have HB : Hid (∀ j, 0 ≤ zs.getD j 0 ∧ zs.getD j 0 ≤ 255) := hb
  have HCs : Hid (∀ j, j < n → w.cell? ⟨g, j, none⟩ = some (.int .u8 (zs.getD j 0))) := hc
  have hcell0 := hc start hs
  obtain ⟨c0, hcc⟩ : ∃ c, c = zs.getD start 0 := ⟨_, rfl⟩
  rw [← hcc] at hcell0 h1 h2 h3
  have e1 : (c0 == 34) = false := by simpa using h1
  have e2 : (c0 == 123) = false := by simpa using h2
  have e3 : (c0 == 91) = false := by simpa using h3
  clear hT hn hb hc hcc h1 h2 h3
  go_enter Try.func30, Try.ntmps30
  go_wp2
  go_loop [7] (fun i => ∃ k : Nat, i = .int .i64 k ∧ k ≤ n ∧ k + scal (zs.drop k) = T) (fun i => n + 2 - (intOf i).toNat)
  case atStart => exact ⟨start, by go_num, by omega, by rw [HT.out]⟩
  case round =>
    obtain ⟨k, rfl, hk, hr⟩ := hrel
    have HR : Hid (k + scal (zs.drop k) = T) := hr
    clear hr hcell0 e1 e2 e3
    by_cases hlt : k < n
    · have hcell := HCs.out k hlt
      obtain ⟨c, hcc⟩ : ∃ c, c = zs.getD k 0 := ⟨_, rfl⟩
      have hbd := dl_index c (by rw [hcc]; exact (HB.out k).1) (by rw [hcc]; exact (HB.out k).2)
      rw [← hcc] at hcell
      have HC : Hid (c = zs.getD k 0) := hcc
      clear hcc
      obtain ⟨q, hq⟩ : ∃ q, q = Lib.indexByte [44, 93, 125, 32, 9, 10, 13] c.toNat.toUInt8 := ⟨_, rfl⟩
      rw [← hq] at hbd
      have HQ : Hid (q = Lib.indexByte [44, 93, 125, 32, 9, 10, 13] c.toNat.toUInt8) := hq
      clear hq
      by_cases hd : isDl c = true
      · have hq0 : ¬ q < 0 := by simpa [hd] using hbd
        have HD : Hid (isDl c = true) := hd
        clear hd hbd
        go_wp2_with (go_at_call 33; refine (indexByte_any _ _ _).mono ?_; rintro e w' ⟨rfl, rfl⟩; rw [show Lib.indexByte (ByteArray.mk #[44, 93, 125, 32, 9, 10, 13]).data.toList c.toNat.toUInt8 = q from HQ.out.symm])
        go_ret
        have hn := HN.out
        have hr := HR.out
        have st := scal_no zs k (by omega) (by rw [← HC.out]; exact HD.out)
        exact ⟨ret_int (by omega), rfl⟩
      · have hd' : isDl c = false := by simpa using hd
        have hq0 : q < 0 := by simpa [hd'] using hbd
        have HD : Hid (isDl c = false) := hd'
        clear hd hd' hbd
        go_wp2_with (go_at_call 33; refine (indexByte_any _ _ _).mono ?_; rintro e w' ⟨rfl, rfl⟩; rw [show Lib.indexByte (ByteArray.mk #[44, 93, 125, 32, 9, 10, 13]).data.toList c.toNat.toUInt8 = q from HQ.out.symm])
        have hn := HN.out
        have hr := HR.out
        have st := scal_yes zs k (by omega) (by rw [← HC.out]; exact HD.out)
        go_round
        case rel => exact ⟨k + 1, by go_num, by omega, by omega⟩
        case measure => simp [intOf]; omega
    · go_wp2
      go_ret
      have hn := HN.out
      have hr := HR.out
      have st := scal_nil zs k (by omega)
      exact ⟨ret_int (by omega), rfl⟩

set_option maxHeartbeats 400000 in
/-- A string. -/
theorem valueEnd_str (g n cap : Nat) (zs : List Int) (start : Nat) (w : World) (hn : zs.length = n) (hs : start < n) (hm : n ≤ 1099511627776)
    (h1 : zs.getD start 0 = 34)
    (hc : ∀ j, j < n → w.cell? ⟨g, j, none⟩ = some (.int .u8 (zs.getD j 0))) :
    Calls Try.prog 30 #[.slice (some ⟨g, 0, none⟩) n cap, .int .i64 start] w fun e w' => e = .returned (.int .i64 ((start + vlen (zs.drop start) : Nat) : Int)) ∧ w' = w := by
  have hv := vlen_str zs start (by omega) h1
  have hcell0 := hc start hs
  rw [h1] at hcell0
  have HV : Hid (vlen (zs.drop start) = 1 + sE (zs.drop (start + 1))) := hv
  have HN : Hid (zs.length = n) := hn
  have HCs : Hid (∀ j, j < n → w.cell? ⟨g, j, none⟩ = some (.int .u8 (zs.getD j 0))) := hc
  clear hv hn hc h1
  go_enter Try.func30, Try.ntmps30
  go_wp2_with (go_at_call 32; refine (stringEnd_any _ _ _ zs _ _ HN.out (by omega) (by omega) HCs.out).mono ?_; rintro e w' ⟨rfl, rfl⟩)
  go_ret
  exact ⟨ret_int (by rw [HV.out]; omega), rfl⟩

set_option maxHeartbeats 400000 in
/-- An array or an object. -/
theorem valueEnd_br (g n cap : Nat) (zs : List Int) (start : Nat) (w : World) (hn : zs.length = n) (hs : start < n) (hm : n ≤ 1099511627776)
    (h1 : zs.getD start 0 = 123 ∨ zs.getD start 0 = 91)
    (hc : ∀ j, j < n → w.cell? ⟨g, j, none⟩ = some (.int .u8 (zs.getD j 0))) :
    Calls Try.prog 30 #[.slice (some ⟨g, 0, none⟩) n cap, .int .i64 start] w fun e w' => e = .returned (.int .i64 ((start + vlen (zs.drop start) : Nat) : Int)) ∧ w' = w := by
  obtain ⟨T, hT⟩ : ∃ T, T = start + vlen (zs.drop start) := ⟨_, rfl⟩
  rw [← hT]
  rw [vlen_br zs start (by omega) h1] at hT
  have HT : Hid (T = start + bR 0 0 (zs.drop start)) := hT
  have HN : Hid (zs.length = n) := hn
  have HCs : Hid (∀ j, j < n → w.cell? ⟨g, j, none⟩ = some (.int .u8 (zs.getD j 0))) := hc
  have H1 : Hid (zs.getD start 0 = 123 ∨ zs.getD start 0 = 91) := h1
  have hcell0 := hc start hs
  obtain ⟨c0, hcc⟩ : ∃ c, c = zs.getD start 0 := ⟨_, rfl⟩
  rw [← hcc] at hcell0 h1
  have e1 : (c0 == 34) = false := by rcases h1 with h1 | h1 <;> simp [h1]
  have e2 : (c0 == 123) = true ∨ ((c0 == 123) = false ∧ (c0 == 91) = true) := by rcases h1 with h1 | h1 <;> simp [h1]
  clear hT hn hc hcc h1
  rcases e2 with e2 | ⟨e2, e3⟩
  all_goals
    go_enter Try.func30, Try.ntmps30
    go_wp2
    go_loop [5, 6] (fun dd i => ∃ d k : Nat, dd = .int .i64 d ∧ i = .int .i64 k ∧ k ≤ n ∧ d ≤ k ∧ (d = 0 → zs.getD k 0 = 123 ∨ zs.getD k 0 = 91) ∧ k + bR d 0 (zs.drop k) = T) (fun _ i => n + 2 - (intOf i).toNat)
    case atStart => exact ⟨0, start, by go_num, by go_num, by omega, by omega, fun _ => H1.out, by rw [HT.out]⟩
    case round =>
      obtain ⟨d, k, rfl, rfl, hk, hdk, h0, hr⟩ := hrel
      have HR : Hid (k + bR d 0 (zs.drop k) = T) := hr
      have H0 : Hid (d = 0 → zs.getD k 0 = 123 ∨ zs.getD k 0 = 91) := h0
      clear hr h0 hcell0 e1 e2
      by_cases hlt : k < n
      · have hcell := HCs.out k hlt
        obtain ⟨c, hcc⟩ : ∃ c, c = zs.getD k 0 := ⟨_, rfl⟩
        rw [← hcc] at hcell
        have HC : Hid (c = zs.getD k 0) := hcc
        clear hcc
        by_cases c1 : c = 34
        · have f1 : (c == 34) = true := by simpa using c1
          have H34 : Hid (c = 34) := c1
          clear c1
          obtain ⟨q, hq⟩ : ∃ q : Nat, q = k + 1 + sE (zs.drop (k + 1)) := ⟨_, rfl⟩
          have hqn : k + 1 ≤ q ∧ q ≤ n := by
            have := sE_le (zs.drop (k + 1))
            have hn := HN.out
            rw [List.length_drop] at this
            omega
          obtain ⟨hq1, hq2⟩ := hqn
          have HQ : Hid (q = k + 1 + sE (zs.drop (k + 1))) := hq
          clear hq
          go_wp2_with (go_at_call 32; refine (stringEnd_any _ _ _ zs _ _ HN.out (by omega) (by omega) HCs.out).mono ?_; rintro e w' ⟨rfl, rfl⟩; rw [← HQ.out])
          have hn := HN.out
          have hr := HR.out
          have hcz := HC.out
          have h34 := H34.out
          have st := bR_quote d zs k (by omega) (by omega)
          rw [← HQ.out] at st
          have hd0 : d ≠ 0 := by intro h; have := H0.out h; omega
          go_round
          case rel => exact ⟨d, q, by go_num, by go_num, by omega, by omega, fun h => absurd h hd0, by omega⟩
          case measure => simp [intOf]; omega
        · have f1 : (c == 34) = false := by simpa using c1
          by_cases c2 : c = 123 ∨ c = 91
          · have f2 : (c == 123) = true ∨ ((c == 123) = false ∧ (c == 91) = true) := by rcases c2 with c2 | c2 <;> simp [c2]
            have HO : Hid (c = 123 ∨ c = 91) := c2
            clear c2 c1
            rcases f2 with f2 | ⟨f2, f3⟩
            all_goals
              go_wp2
              have hn := HN.out
              have hr := HR.out
              have st := bR_open d zs k (by omega) (by rw [← HC.out]; exact HO.out)
              go_round
              case rel => exact ⟨d + 1, k + 1, by go_num, by go_num, by omega, by omega, fun h => by omega, by omega⟩
              case measure => simp [intOf]; omega
          · have f2 : (c == 123) = false := by simp; omega
            have f3 : (c == 91) = false := by simp; omega
            have hd0 : d ≠ 0 := by intro h; have := H0.out h; have := HC.out; omega
            by_cases c3 : c = 125 ∨ c = 93
            · have f4 : (c == 125) = true ∨ ((c == 125) = false ∧ (c == 93) = true) := by rcases c3 with c3 | c3 <;> simp [c3]
              have HCl : Hid (c = 125 ∨ c = 93) := c3
              clear c2 c3 c1
              by_cases hd1 : d = 1
              · subst hd1
                clear hd0
                rcases f4 with f4 | ⟨f4, f5⟩
                all_goals
                  go_wp2
                  go_ret
                  have hn := HN.out
                  have hr := HR.out
                  have st := bR_done zs k (by omega) (by rw [← HC.out]; exact HCl.out)
                  exact ⟨ret_int (by omega), rfl⟩
              · have hd2 : 2 ≤ d := by omega
                have HD1 : Hid (¬ d = 1) := hd1
                clear hd0 hd1
                rcases f4 with f4 | ⟨f4, f5⟩
                all_goals
                  go_wp2
                  have hn := HN.out
                  have hr := HR.out
                  have st := bR_close d zs k (by omega) (by rw [← HC.out]; exact HCl.out) HD1.out
                  go_round
                  case rel => exact ⟨d - 1, k + 1, by go_num, by go_num, by omega, by omega, fun h => by omega, by omega⟩
                  case measure => simp [intOf]; omega
            · have f4 : (c == 125) = false := by simp; omega
              have f5 : (c == 93) = false := by simp; omega
              go_wp2
              have hn := HN.out
              have hr := HR.out
              have hcz := HC.out
              have st := bR_else d zs k (by omega) (by rw [← hcz]; exact c1) (by rw [← hcz]; exact c2) (by rw [← hcz]; exact c3)
              go_round
              case rel => exact ⟨d, k + 1, by go_num, by go_num, by omega, by omega, fun h => absurd h hd0, by omega⟩
              case measure => simp [intOf]; omega
      · go_wp2
        go_ret
        have hn := HN.out
        have hr := HR.out
        have st := bR_nil d zs k (by omega)
        exact ⟨ret_int (by omega), rfl⟩

/-- valueEnd at whatever place of whatever bytes. -/
theorem valueEnd_any (g n cap : Nat) (zs : List Int) (start : Nat) (w : World) (hn : zs.length = n) (hs : start < n) (hm : n ≤ 1099511627776)
    (hb : ∀ j, 0 ≤ zs.getD j 0 ∧ zs.getD j 0 ≤ 255)
    (hc : ∀ j, j < n → w.cell? ⟨g, j, none⟩ = some (.int .u8 (zs.getD j 0))) :
    Calls Try.prog 30 #[.slice (some ⟨g, 0, none⟩) n cap, .int .i64 start] w fun e w' => e = .returned (.int .i64 ((start + vlen (zs.drop start) : Nat) : Int)) ∧ w' = w := by
  by_cases h1 : zs.getD start 0 = 34
  · exact valueEnd_str g n cap zs start w hn hs hm h1 hc
  · by_cases h2 : zs.getD start 0 = 123 ∨ zs.getD start 0 = 91
    · exact valueEnd_br g n cap zs start w hn hs hm h2 hc
    · exact valueEnd_sc g n cap zs start w hn hs hm hb h1 (fun h => h2 (.inl h)) (fun h => h2 (.inr h)) hc

theorem ZZvalueEnd_any (g n cap : Nat) (zs : List Int) (start : Nat) (w : World) (hn : zs.length = n) (hs : start < n) (hm : n ≤ 1099511627776)
    (hb : ∀ j, 0 ≤ zs.getD j 0 ∧ zs.getD j 0 ≤ 255)
    (hc : ∀ j, j < n → w.cell? ⟨g, j, none⟩ = some (.int .u8 (zs.getD j 0))) :
    Calls Try.prog 17 #[.slice (some ⟨g, 0, none⟩) n cap, .int .i64 start] w fun e w' => e = .returned (.int .i64 ((start + vlen (zs.drop start) : Nat) : Int)) ∧ w' = w := by
  have HN : Hid (zs.length = n) := hn
  have HB : Hid (∀ j, 0 ≤ zs.getD j 0 ∧ zs.getD j 0 ≤ 255) := hb
  have HCs : Hid (∀ j, j < n → w.cell? ⟨g, j, none⟩ = some (.int .u8 (zs.getD j 0))) := hc
  clear hn hb hc
  go_enter Try.func17, Try.ntmps17
  go_wp2_with (go_at_call 30; refine (valueEnd_any _ _ _ zs _ _ HN.out (by omega) (by omega) HB.out HCs.out).mono ?_; rintro e w' ⟨rfl, rfl⟩)
  go_ret
  exact ⟨rfl, rfl⟩

theorem ZZskipSpace_any (g n cap : Nat) (zs : List Int) (start : Nat) (w : World) (hn : zs.length = n) (hs : start ≤ n) (hm : n ≤ 1099511627776)
    (hc : ∀ j, j < n → w.cell? ⟨g, j, none⟩ = some (.int .u8 (zs.getD j 0))) :
    Calls Try.prog 19 #[.slice (some ⟨g, 0, none⟩) n cap, .int .i64 start] w fun e w' => e = .returned (.int .i64 ((start + spn (zs.drop start) : Nat) : Int)) ∧ w' = w := by
  have HN : Hid (zs.length = n) := hn
  have HCs : Hid (∀ j, j < n → w.cell? ⟨g, j, none⟩ = some (.int .u8 (zs.getD j 0))) := hc
  clear hn hc
  go_enter Try.func19, Try.ntmps19
  go_wp2_with (go_at_call 31; refine (skipSpace_any _ _ _ zs _ _ HN.out (by omega) (by omega) HCs.out).mono ?_; rintro e w' ⟨rfl, rfl⟩)
  go_ret
  exact ⟨rfl, rfl⟩
end Go.Proofs.Qxb6600069a
