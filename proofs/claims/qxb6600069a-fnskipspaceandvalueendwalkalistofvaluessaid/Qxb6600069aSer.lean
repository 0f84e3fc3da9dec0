/-
  SEAT b6600069a: serializeValuesB1, whole.
-/
import Derived.Test.Qxb6600069aSerTwo
import Derived.Test.Qxb6600069aSerTop
import Derived.Test.Qxb6600069aSerDeep
namespace Go.Proofs.Qxb6600069a
open Go.RowKit Plain

set_option maxRecDepth 100000 in
set_option maxHeartbeats 2000000 in
theorem ser_some (b off m c : Nat) (zs : List Int) (w : World) (hm : m ≤ 16384) (hzl : zs.length = m) (hbs : b < w.heap.size) (hcs : ∀ j, j < m → w.cell? ⟨b, off + j, none⟩ = some (.int .u8 (zs.getD j 0))) (hz : ∀ j, 0 ≤ zs.getD j 0 ∧ zs.getD j 0 ≤ 255) :
    Calls Try.prog 15 #[.slice (some ⟨b, off, none⟩) m c] w fun e w' => ∃ gb cb gs cs ge ce : Nat,
      e = .returned (.tuple #[.slice (some ⟨gb, 0, none⟩) (gen true [] (zs.map (· % 8))).length cb, .slice (some ⟨gs, 0, none⟩) (stR true 0 [] (zs.map (· % 8))).length cs, .slice (some ⟨ge, 0, none⟩) (enR true 0 [] (zs.map (· % 8))).length ce]) ∧
      Own w.heap.size w w' [⟨5, gb, cb, bytesV (gen true [] (zs.map (· % 8)))⟩, ⟨3, gs, cs, natsV (stR true 0 [] (zs.map (· % 8)))⟩, ⟨3, ge, ce, natsV (enR true 0 [] (zs.map (· % 8)))⟩] := by
  obtain ⟨ops, hops⟩ : ∃ ops, ops = zs.map (· % 8) := ⟨_, rfl⟩
  rw [← hops]
  obtain ⟨i5, hi5, hz50, hz51, hz52⟩ := info_parts info5
  obtain ⟨i3, hi3, hz30, hz31, hz32⟩ := info_parts info3
  obtain ⟨i4, hi4, hz40, hz41, hz42⟩ := info_parts info4
  have HC : Hid (∀ j, j < m → w.cell? ⟨b, off + j, none⟩ = some (.int .u8 (zs.getD j 0)) ∧ 0 ≤ zs.getD j 0 ∧ zs.getD j 0 ≤ 255 ∧ ops.getD j 0 = zs.getD j 0 % 8) := by
    intro j hj
    refine ⟨hcs j hj, (hz j).1, (hz j).2, ?_⟩
    subst hops
    simp [List.getD, show j < zs.length by omega]
  have HL : Hid (ops.length = m) := by subst hops; show _ = _; simpa using hzl
  clear hzl hcs hz hops
  go_enter Try.func15, Try.ntmps15
  go_wp2
  go_loopg [5, 6, 7, 8, 9, 10] m (SRel w m ops)
  case atStart => unfold SRel; exact ⟨0, _, _, _, _, _, _, _, _, _, _, _, _, _, _, rfl, Nat.zero_le _, rfl, rfl, rfl, rfl, rfl, rfl, by omega, by omega, by omega, by omega, [], [], [], [], Big.start w ops⟩
  case round =>
    unfold SRel at hrel
    obtain ⟨k, gb, cb, nb, gs, cs, ns, ge, ce, ne, go, co, gh, ch, nd, HG, hk, rfl, rfl, rfl, rfl, rfl, rfl, hnb, hns, hne, hnd, buf, ss, es, st, HBig⟩ := hrel
    by_cases hlt : k < m
    · obtain ⟨hc1, hc2, hc3, hc4⟩ := HC.out k hlt
      have hcell : wr.cell? ⟨b, off + k, none⟩ = some (.int .u8 (zs.getD k 0)) := (HBig.out.own.below.cell (p := ⟨b, off + k, none⟩) hbs).trans hc1
      obtain ⟨q, hq⟩ : ∃ q, q = zs.getD k 0 := ⟨_, rfl⟩
      rw [← hq] at hcell hc2 hc3 hc4
      have HQ : Hid (ops.getD k 0 = q % 8) := hc4
      clear hq hc1 hc4
      have hklen : Hid (k < ops.length) := by have := HL.out; show _ < _; omega
      by_cases h2 : q % 8 = 2
      · exact round_two b off m c w wr ops _ rfl _ _ _ _ _ _ _ _ _ _ _ _ _ _ _ _ _ _ _ _ _ _ _ _ _ _ _ _ _ _ _ _ _ _ _ _ _ _ _ _ _ _ _ _ _ _ _ _ _ _ _ _ _ _ _ _ _ _ _ _ _ _ _ _ _ _ _ _ _ _ _ _ _ _ _ _ _ _ _ _ _ _ _ _ _ _ _ _ _ _ _ _ _ _ _ _ _ _ _ _ _ _ _ _ _ _ _ _ _ _ _ _ _ _ _ _ _ _ _ _ _ _ _ _ _ _ _ _ _ _ _ _ _ _ _ _ _ _ gk (by assumption) (by assumption) hm k gb cb nb gs cs ns ge ce ne go co gh ch nd HG hk hnb hns hne hnd buf ss es st HBig hlt q hcell hc2 hc3 HQ hklen h2
      · cases st with
        | nil => exact round_top b off m c w wr ops _ rfl _ _ _ _ _ _ _ _ _ _ _ _ _ _ _ _ _ _ _ _ _ _ _ _ _ _ _ _ _ _ _ _ _ _ _ _ _ _ _ _ _ _ _ _ _ _ _ _ _ _ _ _ _ _ _ _ _ _ _ _ _ _ _ _ _ _ _ _ _ _ _ _ _ _ _ _ _ _ _ _ _ _ _ _ _ _ _ _ _ _ _ _ _ _ _ _ _ _ _ _ _ _ _ _ _ _ _ _ _ _ _ _ _ _ _ _ _ _ _ _ _ _ _ _ _ _ _ _ _ _ _ _ _ _ _ _ _ _ gk (by assumption) (by assumption) hm k gb cb nb gs cs ns ge ce ne go co gh ch nd HG hk hnb hns hne hnd buf ss es HBig hlt q hcell hc2 hc3 HQ hklen h2
        | cons p s => exact round_deep b off m c w wr ops _ rfl _ _ _ _ _ _ _ _ _ _ _ _ _ _ _ _ _ _ _ _ _ _ _ _ _ _ _ _ _ _ _ _ _ _ _ _ _ _ _ _ _ _ _ _ _ _ _ _ _ _ _ _ _ _ _ _ _ _ _ _ _ _ _ _ _ _ _ _ _ _ _ _ _ _ _ _ _ _ _ _ _ _ _ _ _ _ _ _ _ _ _ _ _ _ _ _ _ _ _ _ _ _ _ _ _ _ _ _ _ _ _ _ _ _ _ _ _ _ _ _ _ _ _ _ _ _ _ _ _ _ _ _ _ _ _ _ _ _ gk (by assumption) (by assumption) hm k gb cb nb gs cs ns ge ce ne go co gh ch nd HG hk hnb hns hne hnd buf ss es p s HBig hlt q hcell hc2 hc3 HQ hklen h2
    · obtain rfl : k = m := by omega
      have Hlb : Hid (buf.length = nb) := HBig.out.lb
      have Hle : Hid (es.length = ne) := HBig.out.le
      have HDn : Hid (buf ++ closers st = gen true [] ops ∧ ss = stR true 0 [] ops ∧ es ++ (if st = [] then [] else [(buf ++ closers st).length]) = enR true 0 [] ops) := HBig.out.inv.done HL.out.symm
      cases st with
      | nil =>
        obtain rfl : nd = 0 := HBig.out.ld.symm
        go_wp2
        go_ret3
        obtain ⟨d1, d2, d3⟩ := HDn.out
        simp only [closers, List.map_nil, List.append_nil, if_pos] at d1 d3
        refine ⟨gb, cb, gs, cs, ge, ce, ?_, ?_⟩
        · rw [← d1, ← d2, ← d3, HBig.out.lb, HBig.out.ls, HBig.out.le]; rfl
        · rw [← d1, ← d2, ← d3]; exact HBig.out.own.firsts 3
      | cons p s =>
        have hnd1 : 0 < nd := by rw [← HBig.out.ld]; simp
        go_wp2
        go_loopg [5, 13] nd (fun gk t5 t13 w1 => ∃ d g1 c1 : Nat, Hid (gk = d) ∧ d ≤ nd ∧ t13 = .int .i64 d ∧ t5 = .slice (some ⟨g1, 0, none⟩) (nb + (nd - d)) c1 ∧
          Hid (Own w.heap.size w w1 [⟨5, g1, c1, bytesV (buf ++ (closers (p :: s)).take (nd - d))⟩, ⟨3, gs, cs, natsV ss⟩, ⟨3, ge, ce, natsV es⟩, ⟨4, go, co, osV (p :: s)⟩, ⟨4, gh, ch, hsV (p :: s)⟩]))
        case atStart => exact ⟨nd, gb, cb, rfl, Nat.le_refl _, rfl, by simp, by simp only [Nat.sub_self, List.take_zero, List.append_nil]; exact HBig.out.own⟩
        case round =>
          obtain ⟨d, g1, c1, HG1, hd, rfl, rfl, HO1⟩ := hrel
          by_cases hd0 : d = 0
          · subst hd0
            go_wp2_with (at_builtin; refine app_int HO1 2 ge ne ce es _ (nb + nd) (by omega) rfl Hle (by omega) 172 175 rfl rfl rfl _ rfl rfl ?_)
            intro g2 c2 w2 HO2
            go_wp2
            go_ret3
            obtain ⟨d1, d2, d3⟩ := HDn.out
            have hcl : (closers (p :: s)).take nd = closers (p :: s) := List.take_of_length_le (by simp only [closers, List.length_map]; exact Nat.le_of_eq HBig.out.ld)
            have hlen : (buf ++ closers (p :: s)).length = nb + nd := by
              rw [List.length_append, Hlb.out, closers, List.length_map, HBig.out.ld]
            rw [if_neg (by simp), hlen] at d3
            refine ⟨g1, c1, gs, cs, g2, c2, ?_, ?_⟩
            · rw [← d1, ← d2, ← d3, hlen, HBig.out.ls, List.length_append, HBig.out.le]; rfl
            · rw [← d1, ← d2, ← d3]
              have h := HO2.out.firsts 3
              simp only [hcl] at h
              exact h
          · obtain ⟨o, ho, hcl⟩ := osV_at (p :: s) d (by omega) (by rw [HBig.out.ld]; exact hd)
            rw [HBig.out.ld] at hcl
            have hcell : wr.cell? ⟨go, d - 1, none⟩ = some (.bool o) := by
              rw [(HO1.out.row (i := 3) rfl).cell (d - 1) (by rw [osV_length, HBig.out.ld]; omega)]; exact ho
            have HCl : Hid ((closers (p :: s)).take (nd - (d - 1)) = (closers (p :: s)).take (nd - d) ++ [closeB o]) := hcl
            have Hln : Hid ((buf ++ (closers (p :: s)).take (nd - d)).length = nb + (nd - d)) := by
              show _ = _
              have := HBig.out.ld
              rw [List.length_append, Hlb.out, List.length_take]
              simp only [closers, List.length_map]
              omega
            clear ho hcl
            cases o
            · go_wp2_with (at_builtin; refine app_u8 HO1 0 g1 (nb + (nd - d)) c1 _ [93] rfl Hln 1 rfl (by omega) 169 170 rfl rfl rfl _ rfl rfl ?_)
              intro g2 c2 w2 HO2
              go_wp2
              go_roundg (d - 1)
              case measure => have := HG1.out; omega
              case rel => exact ⟨d - 1, g2, c2, rfl, by omega, by go_num, by congr 1; omega, by rw [HCl.out, ← List.append_assoc]; simpa [closeB] using HO2⟩
            · go_wp2_with (at_builtin; refine app_u8 HO1 0 g1 (nb + (nd - d)) c1 _ [125] rfl Hln 1 rfl (by omega) 166 167 rfl rfl rfl _ rfl rfl ?_)
              intro g2 c2 w2 HO2
              go_wp2
              go_roundg (d - 1)
              case measure => have := HG1.out; omega
              case rel => exact ⟨d - 1, g2, c2, rfl, by omega, by go_num, by congr 1; omega, by rw [HCl.out, ← List.append_assoc]; simpa [closeB] using HO2⟩

set_option maxRecDepth 100000 in
/-- No ops. -/
theorem ser_none (ao : Option Addr) (c : Nat) (w : World) :
    Calls Try.prog 15 #[.slice ao 0 c] w fun e w' => ∃ gb cb gs cs ge ce : Nat,
      e = .returned (.tuple #[.slice (some ⟨gb, 0, none⟩) 0 cb, .slice (some ⟨gs, 0, none⟩) 0 cs, .slice (some ⟨ge, 0, none⟩) 0 ce]) ∧
      Own w.heap.size w w' [⟨5, gb, cb, bytesV []⟩, ⟨3, gs, cs, natsV []⟩, ⟨3, ge, ce, natsV []⟩] := by
  have HOw : Hid (Own w.heap.size w _ _) := (Big.start w []).own
  go_enter Try.func15, Try.ntmps15
  go_wp2
  go_loopg [5, 6, 7, 8, 9, 10] 0 (fun _ t5 t6 t7 t8 t9 i wr => i = .int .i64 0 ∧ t5 = .slice (some ⟨w.heap.size, 0, none⟩) 0 0 ∧ t6 = .slice (some ⟨w.heap.size + 1, 0, none⟩) 0 0 ∧ t7 = .slice (some ⟨w.heap.size + 1 + 1, 0, none⟩) 0 0 ∧
    t8 = .slice (some ⟨w.heap.size + 1 + 1 + 1, 0, none⟩) 0 0 ∧ t9 = .slice (some ⟨w.heap.size + 1 + 1 + 1 + 1, 0, none⟩) 0 0 ∧
    Hid (Own w.heap.size w wr [⟨5, w.heap.size, 0, bytesV []⟩, ⟨3, w.heap.size + 1, 0, natsV []⟩, ⟨3, w.heap.size + 1 + 1, 0, natsV []⟩, ⟨4, w.heap.size + 1 + 1 + 1, 0, osV []⟩, ⟨4, w.heap.size + 1 + 1 + 1 + 1, 0, hsV []⟩]))
  case atStart => exact ⟨rfl, rfl, rfl, rfl, rfl, rfl, HOw⟩
  case round =>
    obtain ⟨rfl, rfl, rfl, rfl, rfl, rfl, HO⟩ := hrel
    go_wp2
    go_ret3
    exact ⟨_, _, _, _, _, _, rfl, HO.out.firsts 3⟩
end Go.Proofs.Qxb6600069a
