/-
  SEAT b6600069a: serializeValuesB1, a round at op 2.
-/
import Derived.Test.Qxb6600069aSerKit
namespace Go.Proofs.Qxb6600069a
open Go.RowKit Plain
set_option linter.unusedVariables false

set_option maxRecDepth 100000 in
set_option maxHeartbeats 4000000 in
theorem round_two (b off m c : Nat) (w wr : World) (ops : List Int) (body' : Code) (hbody : Try.f15.body.bind firstLoop = some body') (u11 u12 u19 u20 u21 u22 u23 u24 u25 u26 u27 u28 u29 u30 u31 u32 u33 u34 u35 u36 u37 u38 u39 u40 u41 u42 u43 u44 u45 u46 u47 u48 u49 u50 u51 u52 u53 u54 u55 u56 u57 u58 u59 u60 u61 u62 u63 u64 u65 u66 u67 u68 u69 u70 u71 u72 u73 u74 u75 u76 u77 u78 u79 u80 u81 u82 u83 u84 u85 u86 u87 u88 u89 u90 u91 u92 u93 u94 u95 u96 u97 u98 u99 u100 u101 u102 u103 u104 u105 u106 u107 u108 u109 u110 u111 u112 u113 u114 u115 u116 u117 u118 u119 u120 u121 u122 u123 u124 u125 u126 u127 u128 u129 u130 u131 u132 u133 u134 u135 u136 u137 u138 u139 u140 u141 u142 u143 u144 u145 u146 u147 u148 u149 u150 u151 : Value)
    (J : Nat → Act → World → Prop) (K : Act → World → Prop) (Q : Exit → Act → World → Prop) (gk : Nat)
    (hJ : ∀ (k : Nat) (a' : Act) (w' : World), (∃ u5 u6 u7 u8 u9 u10 u11 u12 u19 u20 u21 u22 u23 u24 u25 u26 u27 u28 u29 u30 u31 u32 u33 u34 u35 u36 u37 u38 u39 u40 u41 u42 u43 u44 u45 u46 u47 u48 u49 u50 u51 u52 u53 u54 u55 u56 u57 u58 u59 u60 u61 u62 u63 u64 u65 u66 u67 u68 u69 u70 u71 u72 u73 u74 u75 u76 u77 u78 u79 u80 u81 u82 u83 u84 u85 u86 u87 u88 u89 u90 u91 u92 u93 u94 u95 u96 u97 u98 u99 u100 u101 u102 u103 u104 u105 u106 u107 u108 u109 u110 u111 u112 u113 u114 u115 u116 u117 u118 u119 u120 u121 u122 u123 u124 u125 u126 u127 u128 u129 u130 u131 u132 u133 u134 u135 u136 u137 u138 u139 u140 u141 u142 u143 u144 u145 u146 u147 u148 u149 u150 u151 : Value, SRel w m ops k u5 u6 u7 u8 u9 u10 w' ∧ a' = ⟨#[.slice (some ⟨b, off, none⟩) m c, undef, .slice none 0 0, .slice none 0 0, .slice none 0 0, u5, u6, u7, u8, u9, u10, u11, u12, undef, .slice (some ⟨w.heap.size, 0, none⟩) 0 0, .slice (some ⟨w.heap.size + 1, 0, none⟩) 0 0, .slice (some ⟨w.heap.size + 1 + 1, 0, none⟩) 0 0, .slice (some ⟨w.heap.size + 1 + 1 + 1, 0, none⟩) 0 0, .slice (some ⟨w.heap.size + 1 + 1 + 1 + 1, 0, none⟩) 0 0, u19, u20, u21, u22, u23, u24, u25, u26, u27, u28, u29, u30, u31, u32, u33, u34, u35, u36, u37, u38, u39, u40, u41, u42, u43, u44, u45, u46, u47, u48, u49, u50, u51, u52, u53, u54, u55, u56, u57, u58, u59, u60, u61, u62, u63, u64, u65, u66, u67, u68, u69, u70, u71, u72, u73, u74, u75, u76, u77, u78, u79, u80, u81, u82, u83, u84, u85, u86, u87, u88, u89, u90, u91, u92, u93, u94, u95, u96, u97, u98, u99, u100, u101, u102, u103, u104, u105, u106, u107, u108, u109, u110, u111, u112, u113, u114, u115, u116, u117, u118, u119, u120, u121, u122, u123, u124, u125, u126, u127, u128, u129, u130, u131, u132, u133, u134, u135, u136, u137, u138, u139, u140, u141, u142, u143, u144, u145, u146, u147, u148, u149, u150, u151, undef, undef, undef, undef, undef, undef, undef, undef, undef, undef, undef, undef, undef, undef, undef, undef, undef, undef, undef, undef, undef, undef, undef, undef, undef, undef, undef, undef], []⟩) → J k a' w')
    (hK : ∀ (a' : Act) (w' : World), Handed J gk a' w' → K a' w')
    (hm : m ≤ 16384) (k gb cb nb gs cs ns ge ce ne go co gh ch nd : Nat) (HG : Hid (gk = m - k)) (hk : k ≤ m) (hnb : nb ≤ 24 * k) (hns : ns ≤ k) (hne : ne ≤ k) (hnd : nd ≤ k)
    (buf : List Int) (ss es : List Nat) (st : Stack) (HBig : Hid (Big w.heap.size w wr ops k gb cb nb gs cs ns ge ce ne go co gh ch nd buf ss es st)) (hlt : k < m)
    (q : Int) (hcell : wr.cell? ⟨b, off + k, none⟩ = some (.int .u8 q)) (hc2 : 0 ≤ q) (hc3 : q ≤ 255) (HQ : Hid (ops.getD k 0 = q % 8)) (hklen : Hid (k < ops.length)) (h2 : q % 8 = 2) :
    Code.wp Try.prog body' (Exit.then K Q) ⟨#[.slice (some ⟨b, off, none⟩) m c, undef, .slice none 0 0, .slice none 0 0, .slice none 0 0, .slice (some ⟨gb, 0, none⟩) nb cb, .slice (some ⟨gs, 0, none⟩) ns cs, .slice (some ⟨ge, 0, none⟩) ne ce, .slice (some ⟨go, 0, none⟩) nd co, .slice (some ⟨gh, 0, none⟩) nd ch, .int .i64 (k : Int), u11, u12, undef, .slice (some ⟨w.heap.size, 0, none⟩) 0 0, .slice (some ⟨w.heap.size + 1, 0, none⟩) 0 0, .slice (some ⟨w.heap.size + 1 + 1, 0, none⟩) 0 0, .slice (some ⟨w.heap.size + 1 + 1 + 1, 0, none⟩) 0 0, .slice (some ⟨w.heap.size + 1 + 1 + 1 + 1, 0, none⟩) 0 0, u19, u20, u21, u22, u23, u24, u25, u26, u27, u28, u29, u30, u31, u32, u33, u34, u35, u36, u37, u38, u39, u40, u41, u42, u43, u44, u45, u46, u47, u48, u49, u50, u51, u52, u53, u54, u55, u56, u57, u58, u59, u60, u61, u62, u63, u64, u65, u66, u67, u68, u69, u70, u71, u72, u73, u74, u75, u76, u77, u78, u79, u80, u81, u82, u83, u84, u85, u86, u87, u88, u89, u90, u91, u92, u93, u94, u95, u96, u97, u98, u99, u100, u101, u102, u103, u104, u105, u106, u107, u108, u109, u110, u111, u112, u113, u114, u115, u116, u117, u118, u119, u120, u121, u122, u123, u124, u125, u126, u127, u128, u129, u130, u131, u132, u133, u134, u135, u136, u137, u138, u139, u140, u141, u142, u143, u144, u145, u146, u147, u148, u149, u150, u151, undef, undef, undef, undef, undef, undef, undef, undef, undef, undef, undef, undef, undef, undef, undef, undef, undef, undef, undef, undef, undef, undef, undef, undef, undef, undef, undef, undef], []⟩ wr := by
  obtain rfl := Option.some.inj (hbody.symm.trans (rfl : Try.f15.body.bind firstLoop = some _))
  have e2 : (q % 8 == 2) = true := by simpa using h2
  have HQ2 : Hid (ops.getD k 0 = 2) := HQ.out.trans h2
  clear h2
  cases st with
  | nil =>
    have hnd0 : Hid (nd = 0) := HBig.out.ld.symm
    obtain rfl : nd = 0 := hnd0.out
    go_wp2
    go_roundg (m - (k + 1))
    case measure => have := HG.out; omega
    case rel => show SRel _ _ _ _ _ _ _ _ _ _ _; unfold SRel; exact ⟨k + 1, gb, cb, nb, gs, cs, ns, ge, ce, ne, go, co, gh, ch, 0, rfl, by omega, by go_num, rfl, rfl, rfl, rfl, rfl, by omega, by omega, by omega, by omega, buf, ss, es, [], ⟨HBig.out.lb, HBig.out.ls, HBig.out.le, HBig.out.ld, HBig.out.inv.idle hklen.out HQ2.out, HBig.out.own⟩⟩
  | cons p s =>
    obtain ⟨o, x⟩ := p
    obtain ⟨dd, hdd⟩ : ∃ dd, dd = s.length := ⟨_, rfl⟩
    have hnd' : nd = dd + 1 := by rw [← HBig.out.ld, hdd]; rfl
    subst hnd'
    have hcO : wr.cell? ⟨go, dd, none⟩ = some (.bool o) := by
      rw [(HBig.out.own.row (i := 3) rfl).cell dd (by simp [hdd, osV_length]), hdd]
      exact osV_top o x s
    have HD : Hid (dd = s.length) := hdd
    clear hdd
    have hco := (HBig.out.own.row (i := 3) rfl).1
    have hch := (HBig.out.own.row (i := 4) rfl).1
    simp only [osV_length, hsV_length, List.length_cons, ← HD.out] at hco hch
    have Hlb : Hid (buf.length = nb) := HBig.out.lb
    have Hle : Hid (es.length = ne) := HBig.out.le
    have HOw : Hid (Own w.heap.size w wr _) := HBig.out.own
    cases s with
    | nil =>
      obtain rfl : dd = 0 := HD.out
      cases o
      · go_wp2_with (at_builtin; refine app_u8 HOw 0 gb nb cb buf [93] rfl Hlb 1 rfl (by omega) 44 45 rfl rfl rfl _ rfl rfl ?_)
        intro g1 c1 w1 HO1
        go_wp2_with (at_builtin; refine app_int HO1 2 ge ne ce es _ (nb + 1) (by omega) rfl Hle (by omega) 57 60 rfl rfl rfl _ rfl rfl ?_)
        intro g2 c2 w2 HO2
        go_wp2
        go_roundg (m - (k + 1))
        case measure => have := HG.out; omega
        case rel => show SRel _ _ _ _ _ _ _ _ _ _ _; unfold SRel; exact ⟨k + 1, g1, c1, nb + 1, gs, cs, ns, g2, c2, ne + 1, go, co, gh, ch, 0, rfl, by omega, by go_num, rfl, rfl, rfl, rfl, rfl, by omega, by omega, by omega, by omega, _, _, _, _, Big.close1 HBig.out hklen.out HQ2.out HO2.out⟩
      · go_wp2_with (at_builtin; refine app_u8 HOw 0 gb nb cb buf [125] rfl Hlb 1 rfl (by omega) 41 42 rfl rfl rfl _ rfl rfl ?_)
        intro g1 c1 w1 HO1
        go_wp2_with (at_builtin; refine app_int HO1 2 ge ne ce es _ (nb + 1) (by omega) rfl Hle (by omega) 57 60 rfl rfl rfl _ rfl rfl ?_)
        intro g2 c2 w2 HO2
        go_wp2
        go_roundg (m - (k + 1))
        case measure => have := HG.out; omega
        case rel => show SRel _ _ _ _ _ _ _ _ _ _ _; unfold SRel; exact ⟨k + 1, g1, c1, nb + 1, gs, cs, ns, g2, c2, ne + 1, go, co, gh, ch, 0, rfl, by omega, by go_num, rfl, rfl, rfl, rfl, rfl, by omega, by omega, by omega, by omega, _, _, _, _, Big.close1 HBig.out hklen.out HQ2.out HO2.out⟩
    | cons p s =>
      have hdd1 : 1 ≤ dd := by rw [HD.out]; simp
      cases o
      · go_wp2_with (at_builtin; refine app_u8 HOw 0 gb nb cb buf [93] rfl Hlb 1 rfl (by omega) 44 45 rfl rfl rfl _ rfl rfl ?_)
        intro g1 c1 w1 HO1
        go_wp2
        go_roundg (m - (k + 1))
        case measure => have := HG.out; omega
        case rel => show SRel _ _ _ _ _ _ _ _ _ _ _; unfold SRel; exact ⟨k + 1, g1, c1, nb + 1, gs, cs, ns, ge, ce, ne, go, co, gh, ch, dd, rfl, by omega, by go_num, rfl, rfl, rfl, rfl, rfl, by omega, by omega, by omega, by omega, _, _, _, _, Big.close2 HBig.out hklen.out HQ2.out HO1.out dd HD.out⟩
      · go_wp2_with (at_builtin; refine app_u8 HOw 0 gb nb cb buf [125] rfl Hlb 1 rfl (by omega) 41 42 rfl rfl rfl _ rfl rfl ?_)
        intro g1 c1 w1 HO1
        go_wp2
        go_roundg (m - (k + 1))
        case measure => have := HG.out; omega
        case rel => show SRel _ _ _ _ _ _ _ _ _ _ _; unfold SRel; exact ⟨k + 1, g1, c1, nb + 1, gs, cs, ns, ge, ce, ne, go, co, gh, ch, dd, rfl, by omega, by go_num, rfl, rfl, rfl, rfl, rfl, by omega, by omega, by omega, by omega, _, _, _, _, Big.close2 HBig.out hklen.out HQ2.out HO1.out dd HD.out⟩
end Go.Proofs.Qxb6600069a
