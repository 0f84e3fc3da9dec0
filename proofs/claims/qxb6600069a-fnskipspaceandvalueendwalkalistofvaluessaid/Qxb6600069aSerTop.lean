/-
  SEAT b6600069a: serializeValuesB1, a round that writes at the top.
-/
import Derived.Test.Qxb6600069aSerKit
namespace Go.Proofs.Qxb6600069a
open Go.RowKit Plain
set_option linter.unusedVariables false

set_option maxRecDepth 100000 in
set_option maxHeartbeats 4000000 in
theorem round_top (b off m c : Nat) (w wr : World) (ops : List Int) (body' : Code) (hbody : Try.f15.body.bind firstLoop = some body') (u11 u12 u19 u20 u21 u22 u23 u24 u25 u26 u27 u28 u29 u30 u31 u32 u33 u34 u35 u36 u37 u38 u39 u40 u41 u42 u43 u44 u45 u46 u47 u48 u49 u50 u51 u52 u53 u54 u55 u56 u57 u58 u59 u60 u61 u62 u63 u64 u65 u66 u67 u68 u69 u70 u71 u72 u73 u74 u75 u76 u77 u78 u79 u80 u81 u82 u83 u84 u85 u86 u87 u88 u89 u90 u91 u92 u93 u94 u95 u96 u97 u98 u99 u100 u101 u102 u103 u104 u105 u106 u107 u108 u109 u110 u111 u112 u113 u114 u115 u116 u117 u118 u119 u120 u121 u122 u123 u124 u125 u126 u127 u128 u129 u130 u131 u132 u133 u134 u135 u136 u137 u138 u139 u140 u141 u142 u143 u144 u145 u146 u147 u148 u149 u150 u151 : Value)
    (J : Nat → Act → World → Prop) (K : Act → World → Prop) (Q : Exit → Act → World → Prop) (gk : Nat)
    (hJ : ∀ (k : Nat) (a' : Act) (w' : World), (∃ u5 u6 u7 u8 u9 u10 u11 u12 u19 u20 u21 u22 u23 u24 u25 u26 u27 u28 u29 u30 u31 u32 u33 u34 u35 u36 u37 u38 u39 u40 u41 u42 u43 u44 u45 u46 u47 u48 u49 u50 u51 u52 u53 u54 u55 u56 u57 u58 u59 u60 u61 u62 u63 u64 u65 u66 u67 u68 u69 u70 u71 u72 u73 u74 u75 u76 u77 u78 u79 u80 u81 u82 u83 u84 u85 u86 u87 u88 u89 u90 u91 u92 u93 u94 u95 u96 u97 u98 u99 u100 u101 u102 u103 u104 u105 u106 u107 u108 u109 u110 u111 u112 u113 u114 u115 u116 u117 u118 u119 u120 u121 u122 u123 u124 u125 u126 u127 u128 u129 u130 u131 u132 u133 u134 u135 u136 u137 u138 u139 u140 u141 u142 u143 u144 u145 u146 u147 u148 u149 u150 u151 : Value, SRel w m ops k u5 u6 u7 u8 u9 u10 w' ∧ a' = ⟨#[.slice (some ⟨b, off, none⟩) m c, undef, .slice none 0 0, .slice none 0 0, .slice none 0 0, u5, u6, u7, u8, u9, u10, u11, u12, undef, .slice (some ⟨w.heap.size, 0, none⟩) 0 0, .slice (some ⟨w.heap.size + 1, 0, none⟩) 0 0, .slice (some ⟨w.heap.size + 1 + 1, 0, none⟩) 0 0, .slice (some ⟨w.heap.size + 1 + 1 + 1, 0, none⟩) 0 0, .slice (some ⟨w.heap.size + 1 + 1 + 1 + 1, 0, none⟩) 0 0, u19, u20, u21, u22, u23, u24, u25, u26, u27, u28, u29, u30, u31, u32, u33, u34, u35, u36, u37, u38, u39, u40, u41, u42, u43, u44, u45, u46, u47, u48, u49, u50, u51, u52, u53, u54, u55, u56, u57, u58, u59, u60, u61, u62, u63, u64, u65, u66, u67, u68, u69, u70, u71, u72, u73, u74, u75, u76, u77, u78, u79, u80, u81, u82, u83, u84, u85, u86, u87, u88, u89, u90, u91, u92, u93, u94, u95, u96, u97, u98, u99, u100, u101, u102, u103, u104, u105, u106, u107, u108, u109, u110, u111, u112, u113, u114, u115, u116, u117, u118, u119, u120, u121, u122, u123, u124, u125, u126, u127, u128, u129, u130, u131, u132, u133, u134, u135, u136, u137, u138, u139, u140, u141, u142, u143, u144, u145, u146, u147, u148, u149, u150, u151, undef, undef, undef, undef, undef, undef, undef, undef, undef, undef, undef, undef, undef, undef, undef, undef, undef, undef, undef, undef, undef, undef, undef, undef, undef, undef, undef, undef], []⟩) → J k a' w')
    (hK : ∀ (a' : Act) (w' : World), Handed J gk a' w' → K a' w')
    (hm : m ≤ 16384) (k gb cb nb gs cs ns ge ce ne go co gh ch nd : Nat) (HG : Hid (gk = m - k)) (hk : k ≤ m) (hnb : nb ≤ 24 * k) (hns : ns ≤ k) (hne : ne ≤ k) (hnd : nd ≤ k)
    (buf : List Int) (ss es : List Nat) (HBig : Hid (Big w.heap.size w wr ops k gb cb nb gs cs ns ge ce ne go co gh ch nd buf ss es [])) (hlt : k < m)
    (q : Int) (hcell : wr.cell? ⟨b, off + k, none⟩ = some (.int .u8 q)) (hc2 : 0 ≤ q) (hc3 : q ≤ 255) (HQ : Hid (ops.getD k 0 = q % 8)) (hklen : Hid (k < ops.length)) (h2 : ¬ q % 8 = 2) :
    Code.wp Try.prog body' (Exit.then K Q) ⟨#[.slice (some ⟨b, off, none⟩) m c, undef, .slice none 0 0, .slice none 0 0, .slice none 0 0, .slice (some ⟨gb, 0, none⟩) nb cb, .slice (some ⟨gs, 0, none⟩) ns cs, .slice (some ⟨ge, 0, none⟩) ne ce, .slice (some ⟨go, 0, none⟩) nd co, .slice (some ⟨gh, 0, none⟩) nd ch, .int .i64 (k : Int), u11, u12, undef, .slice (some ⟨w.heap.size, 0, none⟩) 0 0, .slice (some ⟨w.heap.size + 1, 0, none⟩) 0 0, .slice (some ⟨w.heap.size + 1 + 1, 0, none⟩) 0 0, .slice (some ⟨w.heap.size + 1 + 1 + 1, 0, none⟩) 0 0, .slice (some ⟨w.heap.size + 1 + 1 + 1 + 1, 0, none⟩) 0 0, u19, u20, u21, u22, u23, u24, u25, u26, u27, u28, u29, u30, u31, u32, u33, u34, u35, u36, u37, u38, u39, u40, u41, u42, u43, u44, u45, u46, u47, u48, u49, u50, u51, u52, u53, u54, u55, u56, u57, u58, u59, u60, u61, u62, u63, u64, u65, u66, u67, u68, u69, u70, u71, u72, u73, u74, u75, u76, u77, u78, u79, u80, u81, u82, u83, u84, u85, u86, u87, u88, u89, u90, u91, u92, u93, u94, u95, u96, u97, u98, u99, u100, u101, u102, u103, u104, u105, u106, u107, u108, u109, u110, u111, u112, u113, u114, u115, u116, u117, u118, u119, u120, u121, u122, u123, u124, u125, u126, u127, u128, u129, u130, u131, u132, u133, u134, u135, u136, u137, u138, u139, u140, u141, u142, u143, u144, u145, u146, u147, u148, u149, u150, u151, undef, undef, undef, undef, undef, undef, undef, undef, undef, undef, undef, undef, undef, undef, undef, undef, undef, undef, undef, undef, undef, undef, undef, undef, undef, undef, undef, undef], []⟩ wr := by
  obtain rfl := Option.some.inj (hbody.symm.trans (rfl : Try.f15.body.bind firstLoop = some _))
  have e2 : (q % 8 == 2) = false := by simpa using h2
  have H2 : Hid (¬ q % 8 = 2) := h2
  clear h2
  have Hlb : Hid (buf.length = nb) := HBig.out.lb
  have Hls : Hid (ss.length = ns) := HBig.out.ls
  have Hle : Hid (es.length = ne) := HBig.out.le
  have HOw : Hid (Own w.heap.size w wr _) := HBig.out.own
  obtain rfl : nd = 0 := HBig.out.ld.symm
  go_upto_if 63 with fail
  go_cut [5, 6] from 19 to 151 (fun t5 t6 wc => ∃ g1 c1 n1 g2 c2 : Nat, t5 = .slice (some ⟨g1, 0, none⟩) n1 c1 ∧ t6 = .slice (some ⟨g2, 0, none⟩) (ns + 1) c2 ∧ n1 ≤ nb + 10 ∧ Hid ((buf ++ pre ss.isEmpty []).length = n1) ∧
    Hid (Own w.heap.size w wc [⟨5, g1, c1, bytesV (buf ++ pre ss.isEmpty [])⟩, ⟨3, g2, c2, natsV (ss ++ [n1])⟩, ⟨3, ge, ce, natsV es⟩, ⟨4, go, co, osV []⟩, ⟨4, gh, ch, hsV []⟩]))
  case first =>
    by_cases hns0 : ns = 0
    · subst hns0
      have hss : ss = [] := List.eq_nil_of_length_eq_zero Hls.out
      have HP : Hid (buf ++ pre ss.isEmpty [] = buf) := by show _ = _; rw [hss]; simp [pre]
      clear hss
      go_wp2_with (at_builtin; refine app_int HOw 1 gs 0 cs ss _ nb (by omega) rfl Hls (by omega) 70 73 rfl rfl rfl _ rfl rfl ?_)
      intro g2 c2 w2 HO2
      go_wp2
      go_meet
      case rel => exact ⟨gb, cb, nb, g2, c2, rfl, rfl, by omega, by rw [HP.out]; exact Hlb, by rw [HP.out]; exact HO2⟩
    · have HP : Hid (pre ss.isEmpty [] = [9, 44, 32, 10]) := by
        show _ = _
        cases ss with
        | nil => exact absurd Hls.out.symm hns0
        | cons _ _ => rfl
      go_wp2_with (at_builtin; refine app_u8 HOw 0 gb nb cb buf [9, 44, 32, 10] rfl Hlb 4 rfl (by omega) 67 68 rfl rfl rfl _ rfl rfl ?_)
      intro g1 c1 w1 HO1
      go_wp2_with (at_builtin; refine app_int HO1 1 gs ns cs ss _ (nb + 4) (by omega) rfl Hls (by omega) 70 73 rfl rfl rfl _ rfl rfl ?_)
      intro g2 c2 w2 HO2
      go_wp2
      go_meet
      case rel => exact ⟨g1, c1, nb + 4, g2, c2, rfl, rfl, by omega, by rw [HP.out]; show _ = _; simp [Hlb.out], by rw [HP.out]; exact HO2⟩
  case rest =>
    obtain ⟨g1, c1, n1, g2, c2, rfl, rfl, hn1, Hn1, HO1⟩ := hcut
    have Hls2 : Hid ((ss ++ [n1]).length = ns + 1) := by show _ = _; simp [Hls.out]
    have hsp : q % 8 ≤ 0 ∨ (1 ≤ q % 8 ∧ q % 8 ≤ 1) ∨ (3 ≤ q % 8 ∧ q % 8 ≤ 3) ∨ (4 ≤ q % 8 ∧ q % 8 ≤ 4) ∨ (5 ≤ q % 8 ∧ q % 8 ≤ 5) ∨ (6 ≤ q % 8 ∧ q % 8 ≤ 6) ∨ 7 ≤ q % 8 := by have := H2.out; omega
    clear e2
    rcases hsp with b1 | ⟨b1, b2⟩ | ⟨b1, b2⟩ | ⟨b1, b2⟩ | ⟨b1, b2⟩ | ⟨b1, b2⟩ | b1
    · go_wp2_with (at_builtin; refine app_u8 HO1 0 g1 n1 c1 (buf ++ pre ss.isEmpty []) [91] rfl Hn1 1 rfl (by omega) 101 102 rfl rfl rfl _ rfl rfl ?_)
      intro g3 c3 w3 HO3
      go_wp2_with (at_builtin; refine app_bool HO3 3 go 0 co (osV []) false rfl rfl (by omega) 104 105 rfl rfl rfl _ rfl rfl ?_)
      intro g4 c4 w4 HO4
      go_wp2_with (at_builtin; refine app_bool HO4 4 gh 0 ch (hsV []) false rfl rfl (by omega) 107 108 rfl rfl rfl _ rfl rfl ?_)
      intro g5 c5 w5 HO5
      go_wp2
      go_roundg (m - (k + 1))
      case measure => have := HG.out; omega
      case rel => show SRel _ _ _ _ _ _ _ _ _ _ _; unfold SRel; exact ⟨k + 1, g3, c3, n1 + 1, g2, c2, ns + 1, ge, ce, ne, g4, c4, g5, c5, 1, rfl, by omega, by go_num, rfl, rfl, rfl, rfl, rfl, by omega, by omega, by omega, by omega, Big.top HBig.out hklen.out 0 (by have := HQ.out; omega) (by omega) [91] rfl n1 Hn1.out es (by simp) _ _ (os_push0 []) (hs_push0 []) HO5.out _ _ _ _ rfl rfl Hle.out rfl⟩
    · go_wp2_with (at_builtin; refine app_u8 HO1 0 g1 n1 c1 (buf ++ pre ss.isEmpty []) [123] rfl Hn1 1 rfl (by omega) 112 113 rfl rfl rfl _ rfl rfl ?_)
      intro g3 c3 w3 HO3
      go_wp2_with (at_builtin; refine app_bool HO3 3 go 0 co (osV []) true rfl rfl (by omega) 115 116 rfl rfl rfl _ rfl rfl ?_)
      intro g4 c4 w4 HO4
      go_wp2_with (at_builtin; refine app_bool HO4 4 gh 0 ch (hsV []) false rfl rfl (by omega) 118 119 rfl rfl rfl _ rfl rfl ?_)
      intro g5 c5 w5 HO5
      go_wp2
      go_roundg (m - (k + 1))
      case measure => have := HG.out; omega
      case rel => show SRel _ _ _ _ _ _ _ _ _ _ _; unfold SRel; exact ⟨k + 1, g3, c3, n1 + 1, g2, c2, ns + 1, ge, ce, ne, g4, c4, g5, c5, 1, rfl, by omega, by go_num, rfl, rfl, rfl, rfl, rfl, by omega, by omega, by omega, by omega, Big.top HBig.out hklen.out 1 (by have := HQ.out; omega) (by omega) [123] rfl n1 Hn1.out es (by simp) _ _ (os_push1 []) (hs_push1 []) HO5.out _ _ _ _ rfl rfl Hle.out rfl⟩
    · go_wp2_with (at_builtin; refine app_u8 HO1 0 g1 n1 c1 (buf ++ pre ss.isEmpty []) [34, 97, 92, 34, 93, 125, 123, 91, 44, 92, 92, 34] rfl Hn1 12 rfl (by omega) 123 124 rfl rfl rfl _ rfl rfl ?_)
      intro g3 c3 w3 HO3
      go_wp2_with (at_builtin; refine app_int HO3 2 ge ne ce es _ (n1 + 12) (by omega) rfl Hle (by omega) 147 150 rfl rfl rfl _ rfl rfl ?_)
      intro g4 c4 w4 HO4
      go_wp2
      go_roundg (m - (k + 1))
      case measure => have := HG.out; omega
      case rel => show SRel _ _ _ _ _ _ _ _ _ _ _; unfold SRel; exact ⟨k + 1, g3, c3, n1 + 12, g2, c2, ns + 1, g4, c4, ne + 1, go, co, gh, ch, 0, rfl, by omega, by go_num, rfl, rfl, rfl, rfl, rfl, by omega, by omega, by omega, by omega, Big.top HBig.out hklen.out 3 (by have := HQ.out; omega) (by omega) [34, 97, 92, 34, 93, 125, 123, 91, 44, 92, 92, 34] rfl n1 Hn1.out (es ++ [n1 + 12]) rfl _ _ (os_push3 3 (by omega) []) (hs_push3 3 (by omega) []) HO4.out _ _ _ _ rfl rfl (by simp [Hle.out]) rfl⟩
    · go_wp2_with (at_builtin; refine app_u8 HO1 0 g1 n1 c1 (buf ++ pre ss.isEmpty []) [45, 49, 50, 46, 53, 101, 43, 51] rfl Hn1 8 rfl (by omega) 128 129 rfl rfl rfl _ rfl rfl ?_)
      intro g3 c3 w3 HO3
      go_wp2_with (at_builtin; refine app_int HO3 2 ge ne ce es _ (n1 + 8) (by omega) rfl Hle (by omega) 147 150 rfl rfl rfl _ rfl rfl ?_)
      intro g4 c4 w4 HO4
      go_wp2
      go_roundg (m - (k + 1))
      case measure => have := HG.out; omega
      case rel => show SRel _ _ _ _ _ _ _ _ _ _ _; unfold SRel; exact ⟨k + 1, g3, c3, n1 + 8, g2, c2, ns + 1, g4, c4, ne + 1, go, co, gh, ch, 0, rfl, by omega, by go_num, rfl, rfl, rfl, rfl, rfl, by omega, by omega, by omega, by omega, Big.top HBig.out hklen.out 4 (by have := HQ.out; omega) (by omega) [45, 49, 50, 46, 53, 101, 43, 51] rfl n1 Hn1.out (es ++ [n1 + 8]) rfl _ _ (os_push3 4 (by omega) []) (hs_push3 4 (by omega) []) HO4.out _ _ _ _ rfl rfl (by simp [Hle.out]) rfl⟩
    · go_wp2_with (at_builtin; refine app_u8 HO1 0 g1 n1 c1 (buf ++ pre ss.isEmpty []) [116, 114, 117, 101] rfl Hn1 4 rfl (by omega) 133 134 rfl rfl rfl _ rfl rfl ?_)
      intro g3 c3 w3 HO3
      go_wp2_with (at_builtin; refine app_int HO3 2 ge ne ce es _ (n1 + 4) (by omega) rfl Hle (by omega) 147 150 rfl rfl rfl _ rfl rfl ?_)
      intro g4 c4 w4 HO4
      go_wp2
      go_roundg (m - (k + 1))
      case measure => have := HG.out; omega
      case rel => show SRel _ _ _ _ _ _ _ _ _ _ _; unfold SRel; exact ⟨k + 1, g3, c3, n1 + 4, g2, c2, ns + 1, g4, c4, ne + 1, go, co, gh, ch, 0, rfl, by omega, by go_num, rfl, rfl, rfl, rfl, rfl, by omega, by omega, by omega, by omega, Big.top HBig.out hklen.out 5 (by have := HQ.out; omega) (by omega) [116, 114, 117, 101] rfl n1 Hn1.out (es ++ [n1 + 4]) rfl _ _ (os_push3 5 (by omega) []) (hs_push3 5 (by omega) []) HO4.out _ _ _ _ rfl rfl (by simp [Hle.out]) rfl⟩
    · go_wp2_with (at_builtin; refine app_u8 HO1 0 g1 n1 c1 (buf ++ pre ss.isEmpty []) [110, 117, 108, 108] rfl Hn1 4 rfl (by omega) 138 139 rfl rfl rfl _ rfl rfl ?_)
      intro g3 c3 w3 HO3
      go_wp2_with (at_builtin; refine app_int HO3 2 ge ne ce es _ (n1 + 4) (by omega) rfl Hle (by omega) 147 150 rfl rfl rfl _ rfl rfl ?_)
      intro g4 c4 w4 HO4
      go_wp2
      go_roundg (m - (k + 1))
      case measure => have := HG.out; omega
      case rel => show SRel _ _ _ _ _ _ _ _ _ _ _; unfold SRel; exact ⟨k + 1, g3, c3, n1 + 4, g2, c2, ns + 1, g4, c4, ne + 1, go, co, gh, ch, 0, rfl, by omega, by go_num, rfl, rfl, rfl, rfl, rfl, by omega, by omega, by omega, by omega, Big.top HBig.out hklen.out 6 (by have := HQ.out; omega) (by omega) [110, 117, 108, 108] rfl n1 Hn1.out (es ++ [n1 + 4]) rfl _ _ (os_push3 6 (by omega) []) (hs_push3 6 (by omega) []) HO4.out _ _ _ _ rfl rfl (by simp [Hle.out]) rfl⟩
    · go_wp2_with (at_builtin; refine app_u8 HO1 0 g1 n1 c1 (buf ++ pre ss.isEmpty []) [34, 34] rfl Hn1 2 rfl (by omega) 96 97 rfl rfl rfl _ rfl rfl ?_)
      intro g3 c3 w3 HO3
      go_wp2_with (at_builtin; refine app_int HO3 2 ge ne ce es _ (n1 + 2) (by omega) rfl Hle (by omega) 147 150 rfl rfl rfl _ rfl rfl ?_)
      intro g4 c4 w4 HO4
      go_wp2
      go_roundg (m - (k + 1))
      case measure => have := HG.out; omega
      case rel => show SRel _ _ _ _ _ _ _ _ _ _ _; unfold SRel; exact ⟨k + 1, g3, c3, n1 + 2, g2, c2, ns + 1, g4, c4, ne + 1, go, co, gh, ch, 0, rfl, by omega, by go_num, rfl, rfl, rfl, rfl, rfl, by omega, by omega, by omega, by omega, Big.top HBig.out hklen.out 7 (by have := HQ.out; omega) (by omega) [34, 34] rfl n1 Hn1.out (es ++ [n1 + 2]) rfl _ _ (os_push3 7 (by omega) []) (hs_push3 7 (by omega) []) HO4.out _ _ _ _ rfl rfl (by simp [Hle.out]) rfl⟩
end Go.Proofs.Qxb6600069a
