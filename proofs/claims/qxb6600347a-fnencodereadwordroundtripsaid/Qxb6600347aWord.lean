/-
  SEAT b6600347a: appendWord.
-/
import Derived.Test.Qxb6600347aLib
import Derived.Test.Qxb6600347aOwn
import Derived.WalkSpells
import Derived.Deep.RegionHeld3
import Derived.Deep.AppendLies
import Derived.Laws.BitsAllLaws
namespace Go.Proofs.Qxb6600347a
open Go.RowKit
set_option linter.unusedSimpArgs false

theorem info5 : (Try.prog.info? 5).map (fun i => (i.zero, i.size, i.bytes)) = some (some (.int .u8 0), 1, 1) := by kernel_rfl
def bytesV (l : List Int) : List Value := l.map (Value.int .u8)

theorem and15 (x : Int) (h0 : 0 ≤ x) (h1 : x ≤ 65535) : bits BinOp.and IntKind.u16 x 15 = (((x % 16).toNat : Nat) : Int) := by
  rw [u16_and x 15 h0 (by omega) (by omega) (by omega)]
  have e : x.toNat &&& (15 : Int).toNat = x.toNat % 16 := Nat.and_two_pow_sub_one_eq_mod x.toNat 4
  rw [e]; omega
theorem and3 (x : Int) (h0 : 0 ≤ x) (h1 : x ≤ 65535) : bits BinOp.and IntKind.u16 x 3 = (((x % 4).toNat : Nat) : Int) := by
  rw [u16_and x 3 h0 (by omega) (by omega) (by omega)]
  have e : x.toNat &&& (3 : Int).toNat = x.toNat % 4 := Nat.and_two_pow_sub_one_eq_mod x.toNat 2
  rw [e]; omega


def consT : List Int := [98, 100, 102, 103, 104, 106, 107, 108, 109, 110, 112, 114, 115, 116, 118, 122]
def vowT : List Int := [97, 105, 111, 117]
/-- The five letters of a word. -/
def encW (x : Int) : List Int := [consT.getD (x / 4096).toNat 0, vowT.getD (x / 1024 % 4).toNat 0, consT.getD (x / 64 % 16).toNat 0, vowT.getD (x / 16 % 4).toNat 0, consT.getD (x % 16).toNat 0]

theorem index_cons0 (w : World) : (Instr.index 9 (.string ⟨#[98, 100, 102, 103, 104, 106, 107, 108, 109, 110, 112, 114, 115, 116, 118, 122]⟩) (.int .u16 0)).run Try.prog w = .ok (.int .u8 98) w := by kernel_rfl
theorem index_cons1 (w : World) : (Instr.index 9 (.string ⟨#[98, 100, 102, 103, 104, 106, 107, 108, 109, 110, 112, 114, 115, 116, 118, 122]⟩) (.int .u16 1)).run Try.prog w = .ok (.int .u8 100) w := by kernel_rfl
theorem index_cons2 (w : World) : (Instr.index 9 (.string ⟨#[98, 100, 102, 103, 104, 106, 107, 108, 109, 110, 112, 114, 115, 116, 118, 122]⟩) (.int .u16 2)).run Try.prog w = .ok (.int .u8 102) w := by kernel_rfl
theorem index_cons3 (w : World) : (Instr.index 9 (.string ⟨#[98, 100, 102, 103, 104, 106, 107, 108, 109, 110, 112, 114, 115, 116, 118, 122]⟩) (.int .u16 3)).run Try.prog w = .ok (.int .u8 103) w := by kernel_rfl
theorem index_cons4 (w : World) : (Instr.index 9 (.string ⟨#[98, 100, 102, 103, 104, 106, 107, 108, 109, 110, 112, 114, 115, 116, 118, 122]⟩) (.int .u16 4)).run Try.prog w = .ok (.int .u8 104) w := by kernel_rfl
theorem index_cons5 (w : World) : (Instr.index 9 (.string ⟨#[98, 100, 102, 103, 104, 106, 107, 108, 109, 110, 112, 114, 115, 116, 118, 122]⟩) (.int .u16 5)).run Try.prog w = .ok (.int .u8 106) w := by kernel_rfl
theorem index_cons6 (w : World) : (Instr.index 9 (.string ⟨#[98, 100, 102, 103, 104, 106, 107, 108, 109, 110, 112, 114, 115, 116, 118, 122]⟩) (.int .u16 6)).run Try.prog w = .ok (.int .u8 107) w := by kernel_rfl
theorem index_cons7 (w : World) : (Instr.index 9 (.string ⟨#[98, 100, 102, 103, 104, 106, 107, 108, 109, 110, 112, 114, 115, 116, 118, 122]⟩) (.int .u16 7)).run Try.prog w = .ok (.int .u8 108) w := by kernel_rfl
theorem index_cons8 (w : World) : (Instr.index 9 (.string ⟨#[98, 100, 102, 103, 104, 106, 107, 108, 109, 110, 112, 114, 115, 116, 118, 122]⟩) (.int .u16 8)).run Try.prog w = .ok (.int .u8 109) w := by kernel_rfl
theorem index_cons9 (w : World) : (Instr.index 9 (.string ⟨#[98, 100, 102, 103, 104, 106, 107, 108, 109, 110, 112, 114, 115, 116, 118, 122]⟩) (.int .u16 9)).run Try.prog w = .ok (.int .u8 110) w := by kernel_rfl
theorem index_cons10 (w : World) : (Instr.index 9 (.string ⟨#[98, 100, 102, 103, 104, 106, 107, 108, 109, 110, 112, 114, 115, 116, 118, 122]⟩) (.int .u16 10)).run Try.prog w = .ok (.int .u8 112) w := by kernel_rfl
theorem index_cons11 (w : World) : (Instr.index 9 (.string ⟨#[98, 100, 102, 103, 104, 106, 107, 108, 109, 110, 112, 114, 115, 116, 118, 122]⟩) (.int .u16 11)).run Try.prog w = .ok (.int .u8 114) w := by kernel_rfl
theorem index_cons12 (w : World) : (Instr.index 9 (.string ⟨#[98, 100, 102, 103, 104, 106, 107, 108, 109, 110, 112, 114, 115, 116, 118, 122]⟩) (.int .u16 12)).run Try.prog w = .ok (.int .u8 115) w := by kernel_rfl
theorem index_cons13 (w : World) : (Instr.index 9 (.string ⟨#[98, 100, 102, 103, 104, 106, 107, 108, 109, 110, 112, 114, 115, 116, 118, 122]⟩) (.int .u16 13)).run Try.prog w = .ok (.int .u8 116) w := by kernel_rfl
theorem index_cons14 (w : World) : (Instr.index 9 (.string ⟨#[98, 100, 102, 103, 104, 106, 107, 108, 109, 110, 112, 114, 115, 116, 118, 122]⟩) (.int .u16 14)).run Try.prog w = .ok (.int .u8 118) w := by kernel_rfl
theorem index_cons15 (w : World) : (Instr.index 9 (.string ⟨#[98, 100, 102, 103, 104, 106, 107, 108, 109, 110, 112, 114, 115, 116, 118, 122]⟩) (.int .u16 15)).run Try.prog w = .ok (.int .u8 122) w := by kernel_rfl
theorem index_vow0 (w : World) : (Instr.index 9 (.string ⟨#[97, 105, 111, 117]⟩) (.int .u16 0)).run Try.prog w = .ok (.int .u8 97) w := by kernel_rfl
theorem index_vow1 (w : World) : (Instr.index 9 (.string ⟨#[97, 105, 111, 117]⟩) (.int .u16 1)).run Try.prog w = .ok (.int .u8 105) w := by kernel_rfl
theorem index_vow2 (w : World) : (Instr.index 9 (.string ⟨#[97, 105, 111, 117]⟩) (.int .u16 2)).run Try.prog w = .ok (.int .u8 111) w := by kernel_rfl
theorem index_vow3 (w : World) : (Instr.index 9 (.string ⟨#[97, 105, 111, 117]⟩) (.int .u16 3)).run Try.prog w = .ok (.int .u8 117) w := by kernel_rfl
theorem index_cons (a : Nat) (h : a < 16) (w : World) : (Instr.index 9 (.string ⟨#[98, 100, 102, 103, 104, 106, 107, 108, 109, 110, 112, 114, 115, 116, 118, 122]⟩) (.int .u16 (a : Int))).run Try.prog w = .ok (.int .u8 (consT.getD a 0)) w :=
  match a, h with
  | 0, _ => index_cons0 w
  | 1, _ => index_cons1 w
  | 2, _ => index_cons2 w
  | 3, _ => index_cons3 w
  | 4, _ => index_cons4 w
  | 5, _ => index_cons5 w
  | 6, _ => index_cons6 w
  | 7, _ => index_cons7 w
  | 8, _ => index_cons8 w
  | 9, _ => index_cons9 w
  | 10, _ => index_cons10 w
  | 11, _ => index_cons11 w
  | 12, _ => index_cons12 w
  | 13, _ => index_cons13 w
  | 14, _ => index_cons14 w
  | 15, _ => index_cons15 w
  | _ + 16, h => absurd h (by omega)
theorem index_vow (a : Nat) (h : a < 4) (w : World) : (Instr.index 9 (.string ⟨#[97, 105, 111, 117]⟩) (.int .u16 (a : Int))).run Try.prog w = .ok (.int .u8 (vowT.getD a 0)) w :=
  match a, h with
  | 0, _ => index_vow0 w
  | 1, _ => index_vow1 w
  | 2, _ => index_vow2 w
  | 3, _ => index_vow3 w
  | _ + 4, h => absurd h (by omega)

set_option maxRecDepth 100000 in
set_option maxHeartbeats 1000000 in
theorem appendWord_any (v : Value) (n : Nat) (xs : List Value) (x : Int) (w : World) (h0 : 0 ≤ x) (h1 : x ≤ 65535) (hown : w.ownsRow 0 5 1 v n xs) (hn : n ≤ 1099511627776) :
    Calls Try.prog 20 #[v, .int .u16 x] w fun e w' => ∃ g cap, e = .returned (.slice (some ⟨g, 0, none⟩) (n + 5) cap) ∧ (Rw.mk 5 g cap (xs ++ bytesV (encW x))).In w' ∧ w.grownBy w' v.ownBlock ∧ (v.ownBlock = some g ∨ w.heap.size ≤ g) := by
  obtain ⟨i0, hi, hz0, hz1, hz2⟩ := info_parts info5
  obtain ⟨a0, ha0⟩ : ∃ a : Nat, a = (x / 4096).toNat := ⟨_, rfl⟩
  obtain ⟨a1, ha1⟩ : ∃ a : Nat, a = (x / 1024 % 4).toNat := ⟨_, rfl⟩
  obtain ⟨a2, ha2⟩ : ∃ a : Nat, a = (x / 64 % 16).toNat := ⟨_, rfl⟩
  obtain ⟨a3, ha3⟩ : ∃ a : Nat, a = (x / 16 % 4).toNat := ⟨_, rfl⟩
  obtain ⟨a4, ha4⟩ : ∃ a : Nat, a = (x % 16).toNat := ⟨_, rfl⟩
  have x0 := index_cons a0 (by omega)
  have x1 := index_vow a1 (by omega)
  have x2 := index_cons a2 (by omega)
  have x3 := index_vow a3 (by omega)
  have x4 := index_cons a4 (by omega)
  have HE : Hid (encW x = [consT.getD a0 0, vowT.getD a1 0, consT.getD a2 0, vowT.getD a3 0, consT.getD a4 0]) := by rw [ha0, ha1, ha2, ha3, ha4]; rfl
  have e0 : x / 4096 = (a0 : Int) := by omega
  have e1 := and3 (x / 1024) (by omega) (by omega)
  have e2 := and15 (x / 64) (by omega) (by omega)
  have e3 := and3 (x / 16) (by omega) (by omega)
  have e4 := and15 x h0 h1
  rw [← ha1] at e1
  rw [← ha2] at e2
  rw [← ha3] at e3
  rw [← ha4] at e4
  have l0 : (a0 : Int) < 16 := by omega
  have l1 : (a1 : Int) < 4 := by omega
  have l2 : (a2 : Int) < 16 := by omega
  have l3 : (a3 : Int) < 4 := by omega
  have l4 : (a4 : Int) < 16 := by omega
  clear ha0 ha1 ha2 ha3 ha4
  generalize consT.getD a0 0 = c0 at HE x0
  generalize vowT.getD a1 0 = c1 at HE x1
  generalize consT.getD a2 0 = c2 at HE x2
  generalize vowT.getD a3 0 = c3 at HE x3
  generalize consT.getD a4 0 = c4 at HE x4
  go_enter Try.func20, Try.ntmps20
  go_wp2
  refine wp_region_noPanic ?_
  refine wp_region_held_drew (S := fun _ => True) (by kernel_rfl) trivial (fun hHeld => ?_)
  refine wpAnyH_take (i := 0) (v := v) rfl (by kernel_rfl) (by kernel_rfl) (by kernel_rfl) (fun _ _ _ h => h) (Or.inl ⟨by rfl, ?_⟩) hHeld ?_
  · intro w1 _; go_simp
  try simp only [Act.put, List.setIfInBounds_toArray, List.set_cons_zero, List.set_cons_succ]
  refine wpAnyH_take (i := 1) (v := .int .u16 x) rfl (by kernel_rfl) (by kernel_rfl) (by kernel_rfl) (fun _ _ _ h => h) (Or.inl ⟨by rfl, ?_⟩) hHeld ?_
  · intro w1 _; go_simp
  try simp only [Act.put, List.setIfInBounds_toArray, List.set_cons_zero, List.set_cons_succ]
  refine wpAnyH_take (i := 2) (v := .int .u16 (a0 : Int)) rfl (by kernel_rfl) (by kernel_rfl) (by kernel_rfl) (fun _ _ _ h => h) (Or.inl ⟨by rfl, ?_⟩) hHeld ?_
  · intro w1 _; go_simp
  try simp only [Act.put, List.setIfInBounds_toArray, List.set_cons_zero, List.set_cons_succ]
  refine wpAnyH_take (i := 3) (v := .int .u8 c0) rfl (by kernel_rfl) (by kernel_rfl) (by kernel_rfl) (fun _ _ _ h => h) (Or.inl ⟨by rfl, ?_⟩) hHeld ?_
  · intro w1 _; go_simp
  try simp only [Act.put, List.setIfInBounds_toArray, List.set_cons_zero, List.set_cons_succ]
  refine wpAnyH_take (i := 4) (v := .int .u16 x) rfl (by kernel_rfl) (by kernel_rfl) (by kernel_rfl) (fun _ _ _ h => h) (Or.inl ⟨by rfl, ?_⟩) hHeld ?_
  · intro w1 _; go_simp
  try simp only [Act.put, List.setIfInBounds_toArray, List.set_cons_zero, List.set_cons_succ]
  refine wpAnyH_take (i := 5) (v := .int .u16 (x / 1024)) rfl (by kernel_rfl) (by kernel_rfl) (by kernel_rfl) (fun _ _ _ h => h) (Or.inl ⟨by rfl, ?_⟩) hHeld ?_
  · intro w1 _; go_simp
  try simp only [Act.put, List.setIfInBounds_toArray, List.set_cons_zero, List.set_cons_succ]
  refine wpAnyH_take (i := 6) (v := .int .u16 (a1 : Int)) rfl (by kernel_rfl) (by kernel_rfl) (by kernel_rfl) (fun _ _ _ h => h) (Or.inl ⟨by rfl, ?_⟩) hHeld ?_
  · intro w1 _; go_simp
  try simp only [Act.put, List.setIfInBounds_toArray, List.set_cons_zero, List.set_cons_succ]
  refine wpAnyH_take (i := 7) (v := .int .u8 c1) rfl (by kernel_rfl) (by kernel_rfl) (by kernel_rfl) (fun _ _ _ h => h) (Or.inl ⟨by rfl, ?_⟩) hHeld ?_
  · intro w1 _; go_simp
  try simp only [Act.put, List.setIfInBounds_toArray, List.set_cons_zero, List.set_cons_succ]
  refine wpAnyH_take (i := 8) (v := .int .u16 x) rfl (by kernel_rfl) (by kernel_rfl) (by kernel_rfl) (fun _ _ _ h => h) (Or.inl ⟨by rfl, ?_⟩) hHeld ?_
  · intro w1 _; go_simp
  try simp only [Act.put, List.setIfInBounds_toArray, List.set_cons_zero, List.set_cons_succ]
  refine wpAnyH_take (i := 9) (v := .int .u16 (x / 64)) rfl (by kernel_rfl) (by kernel_rfl) (by kernel_rfl) (fun _ _ _ h => h) (Or.inl ⟨by rfl, ?_⟩) hHeld ?_
  · intro w1 _; go_simp
  try simp only [Act.put, List.setIfInBounds_toArray, List.set_cons_zero, List.set_cons_succ]
  refine wpAnyH_take (i := 10) (v := .int .u16 (a2 : Int)) rfl (by kernel_rfl) (by kernel_rfl) (by kernel_rfl) (fun _ _ _ h => h) (Or.inl ⟨by rfl, ?_⟩) hHeld ?_
  · intro w1 _; go_simp
  try simp only [Act.put, List.setIfInBounds_toArray, List.set_cons_zero, List.set_cons_succ]
  refine wpAnyH_take (i := 11) (v := .int .u8 c2) rfl (by kernel_rfl) (by kernel_rfl) (by kernel_rfl) (fun _ _ _ h => h) (Or.inl ⟨by rfl, ?_⟩) hHeld ?_
  · intro w1 _; go_simp
  try simp only [Act.put, List.setIfInBounds_toArray, List.set_cons_zero, List.set_cons_succ]
  refine wpAnyH_take (i := 12) (v := .int .u16 x) rfl (by kernel_rfl) (by kernel_rfl) (by kernel_rfl) (fun _ _ _ h => h) (Or.inl ⟨by rfl, ?_⟩) hHeld ?_
  · intro w1 _; go_simp
  try simp only [Act.put, List.setIfInBounds_toArray, List.set_cons_zero, List.set_cons_succ]
  refine wpAnyH_take (i := 13) (v := .int .u16 (x / 16)) rfl (by kernel_rfl) (by kernel_rfl) (by kernel_rfl) (fun _ _ _ h => h) (Or.inl ⟨by rfl, ?_⟩) hHeld ?_
  · intro w1 _; go_simp
  try simp only [Act.put, List.setIfInBounds_toArray, List.set_cons_zero, List.set_cons_succ]
  refine wpAnyH_take (i := 14) (v := .int .u16 (a3 : Int)) rfl (by kernel_rfl) (by kernel_rfl) (by kernel_rfl) (fun _ _ _ h => h) (Or.inl ⟨by rfl, ?_⟩) hHeld ?_
  · intro w1 _; go_simp
  try simp only [Act.put, List.setIfInBounds_toArray, List.set_cons_zero, List.set_cons_succ]
  refine wpAnyH_take (i := 15) (v := .int .u8 c3) rfl (by kernel_rfl) (by kernel_rfl) (by kernel_rfl) (fun _ _ _ h => h) (Or.inl ⟨by rfl, ?_⟩) hHeld ?_
  · intro w1 _; go_simp
  try simp only [Act.put, List.setIfInBounds_toArray, List.set_cons_zero, List.set_cons_succ]
  refine wpAnyH_take (i := 16) (v := .int .u16 x) rfl (by kernel_rfl) (by kernel_rfl) (by kernel_rfl) (fun _ _ _ h => h) (Or.inl ⟨by rfl, ?_⟩) hHeld ?_
  · intro w1 _; go_simp
  try simp only [Act.put, List.setIfInBounds_toArray, List.set_cons_zero, List.set_cons_succ]
  refine wpAnyH_take (i := 17) (v := .int .u16 (a4 : Int)) rfl (by kernel_rfl) (by kernel_rfl) (by kernel_rfl) (fun _ _ _ h => h) (Or.inl ⟨by rfl, ?_⟩) hHeld ?_
  · intro w1 _; go_simp
  try simp only [Act.put, List.setIfInBounds_toArray, List.set_cons_zero, List.set_cons_succ]
  refine wpAnyH_take (i := 18) (v := .int .u8 c4) rfl (by kernel_rfl) (by kernel_rfl) (by kernel_rfl) (fun _ _ _ h => h) (Or.inl ⟨by rfl, ?_⟩) hHeld ?_
  · intro w1 _; go_simp
  try simp only [Act.put, List.setIfInBounds_toArray, List.set_cons_zero, List.set_cons_succ]
  clear x0 x1 x2 x3 x4 e0 e1 e2 e3 e4 l0 l1 l2 l3 l4
  refine wpAnyH_ready (rs := [19]) (by kernel_rfl) (by simp) ?_
  refine AllReadyH.cons rfl (fun K hK => ?_) AllReadyH.nil
  go_simp
  refine hK.out _ _ trivial (fun _ => ?_)
  clear hK K
  try simp only [Act.put, List.setIfInBounds_toArray, List.set_cons_zero, List.set_cons_succ]
  refine wpAnyH_ready (rs := [20]) (by kernel_rfl) (by simp) ?_
  refine AllReadyH.cons rfl (fun K hK => ?_) AllReadyH.nil
  refine step_append_lies _ (by rfl) (.tmp 5) (.tmp 24) 26 (by rfl) 0 5 i0 (.int .u8 0) 1 1 Try.underlying26 hi hz0 hz1 hz2 rfl (by omega) v n xs (by rfl) ?_ ⟨w.heap.size, 0, none⟩ 5 5 [.int .u8 c0, .int .u8 c1, .int .u8 c2, .int .u8 c3, .int .u8 c4] (by rfl) (by rfl) ?_ ?_ (by omega) (by simp only [maxLen]; omega) (by omega) (by omega) (w.heap.size + 1) (by simp) ?_
  · exact (World.ownsRow.alloc hown _).drew
  · exact World.news_of_block (heap_alloc_new w _)
  · intro u hu
    simp only [List.mem_cons, List.not_mem_nil, or_false] at hu
    rcases hu with rfl | rfl | rfl | rfl | rfl <;> rfl
  intro g cap w1 hown1 hgrow hat hlt
  change K (Act.put _ (some 25) _) _
  refine hK.out _ _ trivial (fun _ => ?_)
  clear hK K
  try simp only [Act.put, List.setIfInBounds_toArray, List.set_cons_zero, List.set_cons_succ]
  refine wpAnyH_take (i := 21) (v := .slice (some ⟨g, 0, none⟩) (n + 5) cap) rfl (by kernel_rfl) (by kernel_rfl) (by kernel_rfl) (fun _ _ _ h => h) (Or.inl ⟨by rfl, ?_⟩) hHeld ?_
  · intro w1 _; go_simp
  change wpAnyH _ _ _ _ _ _ _ (Act.put _ (some 4) _) _
  try simp only [Act.put, List.setIfInBounds_toArray, List.set_cons_zero, List.set_cons_succ]
  refine wpAnyH_done (by kernel_rfl) ?_ _
  refine NoPanic.normal ?_
  have hgr : Hid (w.grownBy w1 v.ownBlock) := by
    have h : w.grownBy w1 v.ownBlock := ⟨hgrow.os, hgrow.tape, hgrow.output, by have := hgrow.size; simp at this; omega, fun k hk hne => (hgrow.block k (by simp; omega) hne).trans (Below.heap_alloc w _ k hk)⟩
    exact h
  have HR : Hid ((Rw.mk 5 g cap (xs ++ [.int .u8 c0, .int .u8 c1, .int .u8 c2, .int .u8 c3, .int .u8 c4])).In w1) := Rw.of_owns hown1
  have HA : Hid (v.ownBlock = some g ∨ g = w.heap.size + 1) := hat
  clear hown1 hgrow hat hown hlt
  go_wp2
  go_ret
  refine ⟨g, cap, rfl, ?_, hgr.out, ?_⟩
  · rw [HE.out]; exact HR.out
  · rcases HA.out with h | h
    · exact .inl h
    · exact .inr (by omega)
end Go.Proofs.Qxb6600347a
