/-
  SEAT b6600069a: serializeValuesB1.
-/
import Derived.Test.Qxb6600069aCopy
import Derived.Test.Qxb6600069aInv
import Derived.Deep.CutRange
namespace Go.Proofs.Qxb6600069a
open Go.RowKit Plain

theorem info3 : (Try.prog.info? 3).map (fun i => (i.zero, i.size, i.bytes)) = some (some (.int .i64 0), 1, 8) := by kernel_rfl
theorem info4 : (Try.prog.info? 4).map (fun i => (i.zero, i.size, i.bytes)) = some (some (.bool false), 1, 1) := by kernel_rfl

def natsV (l : List Nat) : List Value := l.map fun (n : Nat) => Value.int .i64 (n : Int)
def osV (st : Stack) : List Value := st.reverse.map fun p => Value.bool p.1
def hsV (st : Stack) : List Value := st.reverse.map fun p => Value.bool p.2
theorem natsV_length (a : List Nat) : (natsV a).length = a.length := List.length_map _
theorem natsV_get (a : List Nat) (j : Nat) (h : j < a.length) : (natsV a)[j]? = some (.int .i64 ((a.getD j 0 : Nat) : Int)) := by simp [natsV, List.getD, h]
theorem osV_length (st : Stack) : (osV st).length = st.length := by simp [osV]
theorem hsV_length (st : Stack) : (hsV st).length = st.length := by simp [hsV]
theorem osV_top (o x : Bool) (s : Stack) : (osV ((o, x) :: s))[s.length]? = some (.bool o) := by simp [osV]
theorem hsV_top (o x : Bool) (s : Stack) : (hsV ((o, x) :: s))[s.length]? = some (.bool x) := by simp [hsV]
theorem osV_pop (p : Bool × Bool) (s : Stack) : (osV (p :: s)).take s.length = osV s := by simp [osV]
theorem hsV_pop (p : Bool × Bool) (s : Stack) : (hsV (p :: s)).take s.length = hsV s := by simp [hsV]
theorem osV_push (p : Bool × Bool) (s : Stack) : osV (p :: s) = osV s ++ [.bool p.1] := by simp [osV]
theorem hsV_push (p : Bool × Bool) (s : Stack) : hsV (p :: s) = hsV s ++ [.bool p.2] := by simp [hsV]
theorem osV_mark (st : Stack) : osV (Plain.mark st) = osV st := by cases st <;> simp [osV, Plain.mark]
theorem hsV_mark (p : Bool × Bool) (s : Stack) : (hsV (p :: s)).set s.length (.bool true) = hsV (Plain.mark (p :: s)) := by
  rw [hsV_push, Plain.mark, hsV_push, List.set_append_right _ _ (by rw [hsV_length]; exact Nat.le_refl _), hsV_length]; simp

/-- The state of the loop. -/
structure Big (B : Nat) (w0 wr : World) (ops : List Int) (k gb cb nb gs cs ns ge ce ne go co gh ch nd : Nat) (buf : List Int) (ss es : List Nat) (st : Stack) : Prop where
  lb : buf.length = nb
  ls : ss.length = ns
  le : es.length = ne
  ld : st.length = nd
  inv : Inv ops k buf ss es st
  own : Own B w0 wr [⟨5, gb, cb, bytesV buf⟩, ⟨3, gs, cs, natsV ss⟩, ⟨3, ge, ce, natsV es⟩, ⟨4, go, co, osV st⟩, ⟨4, gh, ch, hsV st⟩]


/-- An append of bytes. -/
theorem app_u8 {B : Nat} {w0 w : World} {L : List Rw} (hO : Hid (Own B w0 w L)) (j : Nat) (g n cap : Nat) (buf add : List Int) (hj : L[j]? = some ⟨5, g, cap, bytesV buf⟩) (hn : Hid (buf.length = n)) (m : Nat) (hm : add.length = m) (hb : n + m ≤ 1099511627776)
    (s x : Nat) {ops : Array Oper} {rest : List Oper} {o : Oper} {a : Act} {Q : Exit → Act → World → Prop}
    (hg : o.guard = none) (hop : o.op = Op.call { callee := Callee.builtin Builtin.append, args := #[.tmp s, .tmp x], argTypes := #[22, 22] })
    (hs : a.eval (.tmp s) = .slice (some ⟨g, 0, none⟩) n cap) (N : Nat) (hN : w.heap.size = N) (hx : a.eval (.tmp x) = .slice (some ⟨N, 0, none⟩) m m)
    (hK : ∀ g' cap' w', Hid (Own B w0 w' (L.set j ⟨5, g', cap', bytesV (buf ++ add)⟩)) → wpList Try.prog ops Q rest (a.put o.dst (.slice (some ⟨g', 0, none⟩) (n + m) cap')) w') :
    wpList Try.prog ops Q (o :: rest) a (w.alloc (.cells (bytesV add).toArray 5)) := by
  obtain ⟨i0, hi, hz0, hz1, hz2⟩ := info_parts info5
  refine wpList_own hO hg _ _ 22 hop 5 i0 (.int .u8 0) 1 Try.underlying22 hi hz0 hz1 hz2 rfl j g n cap (bytesV buf) (bytesV add) hj hs m m N hN hx (by rw [bytesV_length]; exact hn.out) (by rw [bytesV_length]; exact hm) (ints_oneCell _ _) (by simp only [maxLen]; omega) (by omega) ?_
  intro g' cap' w' h
  refine hK g' cap' w' ?_
  rw [bytesV_append]
  exact h

/-- An append of one number. -/
theorem app_int {B : Nat} {w0 w : World} {L : List Rw} (hO : Hid (Own B w0 w L)) (j : Nat) (g n cap : Nat) (ss : List Nat) (q : Int) (p : Nat) (hq : q = (p : Int)) (hj : L[j]? = some ⟨3, g, cap, natsV ss⟩) (hn : Hid (ss.length = n)) (hb : n + 1 ≤ 1099511627776)
    (s x : Nat) {ops : Array Oper} {rest : List Oper} {o : Oper} {a : Act} {Q : Exit → Act → World → Prop}
    (hg : o.guard = none) (hop : o.op = Op.call { callee := Callee.builtin Builtin.append, args := #[.tmp s, .tmp x], argTypes := #[26, 26] })
    (hs : a.eval (.tmp s) = .slice (some ⟨g, 0, none⟩) n cap) (N : Nat) (hN : w.heap.size = N) (hx : a.eval (.tmp x) = .slice (some ⟨N, 0, none⟩) 1 1)
    (hK : ∀ g' cap' w', Hid (Own B w0 w' (L.set j ⟨3, g', cap', natsV (ss ++ [p])⟩)) → wpList Try.prog ops Q rest (a.put o.dst (.slice (some ⟨g', 0, none⟩) (n + 1) cap')) w') :
    wpList Try.prog ops Q (o :: rest) a (w.alloc (.cells #[.int .i64 q] 3)) := by
  obtain ⟨i0, hi, hz0, hz1, hz2⟩ := info_parts info3
  subst hq
  refine wpList_own hO hg _ _ 26 hop 3 i0 (.int .i64 0) 8 Try.underlying26 hi hz0 hz1 hz2 rfl j g n cap (natsV ss) [.int .i64 p] hj hs 1 1 N hN hx (by rw [natsV_length]; exact hn.out) rfl (by intro u hu; simp at hu; subst hu; rfl) (by simp only [maxLen]; omega) (by omega) ?_
  intro g' cap' w' h
  refine hK g' cap' w' ?_
  rw [natsV, List.map_append]
  exact h

/-- An append of one bool. -/
theorem app_bool {B : Nat} {w0 w : World} {L : List Rw} (hO : Hid (Own B w0 w L)) (j : Nat) (g n cap : Nat) (xs : List Value) (q : Bool) (hj : L[j]? = some ⟨4, g, cap, xs⟩) (hn : Hid (xs.length = n)) (hb : n + 1 ≤ 1099511627776)
    (s x : Nat) {ops : Array Oper} {rest : List Oper} {o : Oper} {a : Act} {Q : Exit → Act → World → Prop}
    (hg : o.guard = none) (hop : o.op = Op.call { callee := Callee.builtin Builtin.append, args := #[.tmp s, .tmp x], argTypes := #[36, 36] })
    (hs : a.eval (.tmp s) = .slice (some ⟨g, 0, none⟩) n cap) (N : Nat) (hN : w.heap.size = N) (hx : a.eval (.tmp x) = .slice (some ⟨N, 0, none⟩) 1 1)
    (hK : ∀ g' cap' w', Hid (Own B w0 w' (L.set j ⟨4, g', cap', xs ++ [.bool q]⟩)) → wpList Try.prog ops Q rest (a.put o.dst (.slice (some ⟨g', 0, none⟩) (n + 1) cap')) w') :
    wpList Try.prog ops Q (o :: rest) a (w.alloc (.cells #[.bool q] 4)) := by
  obtain ⟨i0, hi, hz0, hz1, hz2⟩ := info_parts info4
  exact wpList_own hO hg _ _ 36 hop 4 i0 (.bool false) 1 Try.underlying36 hi hz0 hz1 hz2 rfl j g n cap xs [.bool q] hj hs 1 1 N hN hx hn.out rfl (by intro u hu; simp at hu; subst hu; rfl) (by simp only [maxLen]; omega) (by omega) hK

theorem Big.close1 {B : Nat} {w0 wr w2 : World} {ops : List Int} {k gb cb nb gs cs ns ge ce ne go co gh ch nd g1 c1 g2 c2 : Nat} {buf : List Int} {ss es : List Nat} {o x : Bool}
    (h : Big B w0 wr ops k gb cb nb gs cs ns ge ce ne go co gh ch nd buf ss es [(o, x)]) (hk : k < ops.length) (ho : ops.getD k 0 = 2)
    (hO : Own B w0 w2 [⟨5, g1, c1, bytesV (buf ++ [closeB o])⟩, ⟨3, gs, cs, natsV ss⟩, ⟨3, g2, c2, natsV (es ++ [nb + 1])⟩, ⟨4, go, co, osV [(o, x)]⟩, ⟨4, gh, ch, hsV [(o, x)]⟩]) :
    Big B w0 w2 ops (k + 1) g1 c1 (nb + 1) gs cs ns g2 c2 (ne + 1) go co gh ch 0 (buf ++ [closeB o]) ss (es ++ [nb + 1]) [] := by
  have hi := h.inv.close1 hk ho
  rw [h.lb] at hi
  refine ⟨by simp [h.lb], h.ls, by simp [h.le], rfl, hi, ?_⟩
  have h1 := (hO.cut (i := 3) rfl 0).cut (i := 4) rfl 0
  simpa [osV, hsV] using h1

theorem Big.close2 {B : Nat} {w0 wr w2 : World} {ops : List Int} {k gb cb nb gs cs ns ge ce ne go co gh ch nd g1 c1 : Nat} {buf : List Int} {ss es : List Nat} {o x : Bool} {p : Bool × Bool} {s : Stack}
    (h : Big B w0 wr ops k gb cb nb gs cs ns ge ce ne go co gh ch nd buf ss es ((o, x) :: p :: s)) (hk : k < ops.length) (ho : ops.getD k 0 = 2)
    (hO : Own B w0 w2 [⟨5, g1, c1, bytesV (buf ++ [closeB o])⟩, ⟨3, gs, cs, natsV ss⟩, ⟨3, ge, ce, natsV es⟩, ⟨4, go, co, osV ((o, x) :: p :: s)⟩, ⟨4, gh, ch, hsV ((o, x) :: p :: s)⟩]) (dd : Nat) (hdd : dd = (p :: s).length) :
    Big B w0 w2 ops (k + 1) g1 c1 (nb + 1) gs cs ns ge ce ne go co gh ch dd (buf ++ [closeB o]) ss es (p :: s) := by
  subst hdd
  refine ⟨by simp [h.lb], h.ls, h.le, rfl, h.inv.close2 hk ho, ?_⟩
  have h1 := (hO.cut (i := 3) rfl (p :: s).length).cut (i := 4) rfl (p :: s).length
  rw [osV_pop, hsV_pop] at h1
  exact h1

theorem os_push0 (st : Stack) : osV (push 0 st) = osV st ++ [.bool false] := by rw [← osV_mark st]; exact osV_push (false, false) (Plain.mark st)
theorem hs_push0 (st : Stack) : hsV (push 0 st) = hsV (Plain.mark st) ++ [.bool false] := hsV_push (false, false) (Plain.mark st)
theorem os_push1 (st : Stack) : osV (push 1 st) = osV st ++ [.bool true] := by rw [← osV_mark st]; exact osV_push (true, false) (Plain.mark st)
theorem hs_push1 (st : Stack) : hsV (push 1 st) = hsV (Plain.mark st) ++ [.bool false] := hsV_push (true, false) (Plain.mark st)
theorem os_push3 (op : Int) (h : 3 ≤ op) (st : Stack) : osV (push op st) = osV st := by rw [← osV_mark st, push, if_neg (by omega), if_neg (by omega)]
theorem hs_push3 (op : Int) (h : 3 ≤ op) (st : Stack) : hsV (push op st) = hsV (Plain.mark st) := by rw [push, if_neg (by omega), if_neg (by omega)]
theorem len_push3 (op : Int) (h : 3 ≤ op) (st : Stack) : (push op st).length = st.length := by rw [push_length, if_neg (by omega)]

theorem Big.top {B : Nat} {w0 wr w2 : World} {ops : List Int} {k gb cb nb gs cs ns ge ce ne go co gh ch nd : Nat} {buf : List Int} {ss es : List Nat}
    (h : Big B w0 wr ops k gb cb nb gs cs ns ge ce ne go co gh ch nd buf ss es []) (hk : k < ops.length) (op : Int) (ho : ops.getD k 0 = op) (h2 : ¬ op = 2) {g1 c1 g2 c2 g3 c3 g4 c4 g5 c5 : Nat}
    (bd : List Int) (hbd : body op = bd) (n0 : Nat) (hn0 : (buf ++ pre ss.isEmpty []).length = n0) (esN : List Nat) (hes : esN = es ++ if 3 ≤ op then [n0 + bd.length] else [])
    (os hs : List Value) (hos : osV (push op []) = os) (hhs : hsV (push op []) = hs)
    (hO : Own B w0 w2 [⟨5, g1, c1, bytesV (buf ++ (pre ss.isEmpty [] ++ bd))⟩, ⟨3, g2, c2, natsV (ss ++ [n0])⟩, ⟨3, g3, c3, natsV esN⟩, ⟨4, g4, c4, os⟩, ⟨4, g5, c5, hs⟩])
    (n1 n2 n3 n4 : Nat) (e1 : n0 + bd.length = n1) (e2 : ns + 1 = n2) (e3 : esN.length = n3) (e4 : (push op []).length = n4) :
    ∃ buf' ss' es' st', Hid (Big B w0 w2 ops (k + 1) g1 c1 n1 g2 c2 n2 g3 c3 n3 g4 c4 g5 c5 n4 buf' ss' es' st') := by
  subst hbd hn0 hes hos hhs
  have hi := h.inv.top hk ho h2
  rw [← List.append_assoc] at hO
  have hl : ((buf ++ pre ss.isEmpty []) ++ body op).length = (buf ++ pre ss.isEmpty []).length + (body op).length := List.length_append
  rw [hl] at hi
  exact ⟨_, _, _, _, ⟨by rw [List.length_append]; exact e1, by rw [List.length_append, h.ls]; exact e2, e3, e4, hi, hO⟩⟩

theorem Big.deep {B : Nat} {w0 wr w2 : World} {ops : List Int} {k gb cb nb gs cs ns ge ce ne go co gh ch nd : Nat} {buf : List Int} {ss es : List Nat} {p : Bool × Bool} {s : Stack}
    (h : Big B w0 wr ops k gb cb nb gs cs ns ge ce ne go co gh ch nd buf ss es (p :: s)) (hk : k < ops.length) (op : Int) (ho : ops.getD k 0 = op) (h2 : ¬ op = 2) {g1 c1 g4 c4 g5 c5 : Nat}
    (bd : List Int) (hbd : body op = bd) (n0 : Nat) (hn0 : (buf ++ pre ss.isEmpty (p :: s)).length = n0)
    (os hs : List Value) (hos : osV (push op (p :: s)) = os) (hhs : hsV (push op (p :: s)) = hs)
    (hO : Own B w0 w2 [⟨5, g1, c1, bytesV (buf ++ (pre ss.isEmpty (p :: s) ++ bd))⟩, ⟨3, gs, cs, natsV ss⟩, ⟨3, ge, ce, natsV es⟩, ⟨4, g4, c4, os⟩, ⟨4, g5, c5, hs⟩])
    (n1 n4 : Nat) (e1 : n0 + bd.length = n1) (e4 : (push op (p :: s)).length = n4) :
    ∃ buf' ss' es' st', Hid (Big B w0 w2 ops (k + 1) g1 c1 n1 gs cs ns ge ce ne g4 c4 g5 c5 n4 buf' ss' es' st') := by
  subst hbd hn0 hos hhs
  rw [← List.append_assoc] at hO
  exact ⟨_, _, _, _, ⟨by rw [List.length_append]; exact e1, h.ls, h.le, e4, h.inv.deep hk ho h2, hO⟩⟩

theorem osV_at (st : Stack) (d : Nat) (h1 : 1 ≤ d) (h2 : d ≤ st.length) : ∃ o, (osV st)[d - 1]? = some (.bool o) ∧ (closers st).take (st.length - (d - 1)) = (closers st).take (st.length - d) ++ [closeB o] := by
  have hlt : st.length - d < st.length := by omega
  refine ⟨st[st.length - d].1, ?_, ?_⟩
  · have hr : d - 1 < st.reverse.length := by rw [List.length_reverse]; omega
    rw [osV, List.getElem?_map, List.getElem?_eq_getElem hr, List.getElem_reverse]
    simp only [Option.map_some]
    congr 3
    congr 1
    omega
  · have hc : st.length - d < (closers st).length := by simpa [closers] using hlt
    rw [show st.length - (d - 1) = (st.length - d) + 1 from by omega, List.take_succ_eq_append_getElem hc]
    simp [closers]

theorem Big.start (w : World) (ops : List Int) : Big w.heap.size w (((((w.alloc (.cells #[] 5)).alloc (.cells #[] 3)).alloc (.cells #[] 3)).alloc (.cells #[] 4)).alloc (.cells #[] 4)) ops 0
    w.heap.size 0 0 (w.heap.size + 1) 0 0 (w.heap.size + 1 + 1) 0 0 (w.heap.size + 1 + 1 + 1) 0 (w.heap.size + 1 + 1 + 1 + 1) 0 0 [] [] [] [] := by
  refine ⟨rfl, rfl, rfl, rfl, Inv.start ops, ?_⟩
  have h := (((((Own.empty w).made 5 #[] 0 (by simp) (by simp)).made 3 #[] 0 (by simp) (by simp)).made 3 #[] 0 (by simp) (by simp)).made 4 #[] 0 (by simp) (by simp)).made 4 #[] 0 (by simp) (by simp)
  refine (h.perm (List.reverse_perm _).symm).perm ?_
  simp [bytesV, natsV, osV, hsV]

/-- The body of the first loop. -/
def firstLoop : Code → Option Code
  | .loop c => some c
  | .seq a b => match firstLoop a with
    | some c => some c
    | none => firstLoop b
  | .block _ c => firstLoop c
  | .scope c => firstLoop c
  | .cond _ a b => match firstLoop a with
    | some c => some c
    | none => firstLoop b
  | _ => none

/-- WHAT HOLDS AT THE LOOP's HEAD. -/
def SRel (w : World) (m : Nat) (ops : List Int) (gk : Nat) (t5 t6 t7 t8 t9 i : Value) (wr : World) : Prop :=
  ∃ k gb cb nb gs cs ns ge ce ne go co gh ch nd : Nat, Hid (gk = m - k) ∧ k ≤ m ∧ i = .int .i64 k ∧
    t5 = .slice (some ⟨gb, 0, none⟩) nb cb ∧ t6 = .slice (some ⟨gs, 0, none⟩) ns cs ∧ t7 = .slice (some ⟨ge, 0, none⟩) ne ce ∧ t8 = .slice (some ⟨go, 0, none⟩) nd co ∧ t9 = .slice (some ⟨gh, 0, none⟩) nd ch ∧
    nb ≤ 24 * k ∧ ns ≤ k ∧ ne ≤ k ∧ nd ≤ k ∧ ∃ buf ss es st, Hid (Big w.heap.size w wr ops k gb cb nb gs cs ns ge ce ne go co gh ch nd buf ss es st)

end Go.Proofs.Qxb6600069a
