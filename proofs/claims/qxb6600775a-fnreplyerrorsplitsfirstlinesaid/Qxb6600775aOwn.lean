/-
  SEAT b6600775a: SEVERAL ROWS OF THE CALL's OWN, SIDE BY SIDE, each appended to by turns. Of whatever program: nothing of the dump in sight.
-/
import Derived.WalkKit
namespace Go.Proofs.Qxb6600775a
open Go.RowKit

/-- A row of one-cell elements: its element type, its block, its capacity, what it holds. -/
structure Rw where
  e : TypeId
  g : Nat
  cap : Nat
  xs : List Value

def Rw.In (r : Rw) (w : World) : Prop :=
  r.xs.length ≤ r.cap ∧ r.cap ≤ maxLen ∧ ∃ cur, w.heap[r.g]? = some (.cells cur r.e (0, 0)) ∧ cur.size = r.cap ∧ cur.toList.take r.xs.length = r.xs

/-- From w to w' block g alone has been written, and what lay in g lies in g' now: the same, or a new one. -/
def Upd (w w' : World) (g g' : Nat) : Prop := w.grownBy w' (some g) ∧ (g' = g ∨ w.heap.size ≤ g')

theorem Rw.In.lt {r : Rw} {w : World} (h : r.In w) : r.g < w.heap.size := by
  obtain ⟨_, _, cur, hg, _⟩ := h
  exact (Array.getElem?_eq_some_iff.1 hg).1

theorem Rw.In.cell {e : TypeId} {g cap : Nat} {xs : List Value} {w : World} (h : (Rw.mk e g cap xs).In w) (j : Nat) (hj : j < xs.length) : w.cell? ⟨g, j, none⟩ = xs[j]? := by
  obtain ⟨_, _, cur, hg, _, ht⟩ := h
  simp only at hg ht
  rw [cell_of_row w g j cur e (0, 0) hg, ← ht, List.getElem?_take, if_pos hj]
  simp

theorem Rw.In.frozen {e : TypeId} {g cap : Nat} {xs : List Value} {w : World} (h : (Rw.mk e g cap xs).In w) (j : Nat) : w.frozen? ⟨g, j, none⟩ = false := by
  obtain ⟨_, _, cur, hg, _⟩ := h
  exact frozen_of_row w g j cur e hg

theorem Rw.In.kept {r : Rw} {w w' : World} {g : Nat} (h : r.In w) (hg : w.grownBy w' (some g)) (hne : r.g ≠ g) : r.In w' := by
  have hlt := h.lt
  obtain ⟨h1, h2, cur, hc, h3⟩ := h
  exact ⟨h1, h2, cur, (hg.block r.g hlt (by simpa using hne)).trans hc, h3⟩

theorem Rw.In.owns {e : TypeId} {g cap : Nat} {xs : List Value} {w : World} (h : (Rw.mk e g cap xs).In w) : w.ownsRow 0 e 1 (.slice (some ⟨g, 0, none⟩) xs.length cap) xs.length xs := by
  obtain ⟨h1, h2, cur, hc, h3, h4⟩ := h
  exact ⟨by simp, .inr ⟨g, cap, cur, rfl, Nat.zero_le _, hc, h1, h2, by simpa using h3, by simpa using h4⟩⟩

theorem Rw.In.alloc {r : Rw} {w : World} (h : r.In w) (o : Obj) : r.In (w.alloc o) := by
  have hlt := h.lt
  obtain ⟨h1, h2, cur, hc, h3⟩ := h
  exact ⟨h1, h2, cur, (Below.heap_alloc _ _ _ hlt).trans hc, h3⟩

theorem Rw.of_owns {base : Nat} {e : TypeId} {g n cap : Nat} {xs : List Value} {w : World} (h : w.ownsRow base e 1 (.slice (some ⟨g, 0, none⟩) n cap) n xs) : (Rw.mk e g cap xs).In w := by
  obtain ⟨h1, h2⟩ := h
  rcases h2 with ⟨h2, _⟩ | ⟨g', cap', cur, hv, _, hh, hnc, hcm, hsz, ht⟩
  · simp at h2
  · simp only [Value.slice.injEq, Option.some.injEq, Addr.mk.injEq, and_true, true_and] at hv
    obtain ⟨rfl, rfl⟩ := hv
    simp only [Nat.mul_one] at h1 hsz ht
    exact ⟨by simp only; omega, hcm, cur, hh, hsz, by simp only; rw [h1]; exact ht⟩

theorem Upd.refl (w : World) (g : Nat) : Upd w w g g := ⟨World.grownBy.refl w _, .inl rfl⟩

theorem Upd.trans {w w1 w2 : World} {g g1 g2 : Nat} (h : Upd w w1 g g1) (k : Upd w1 w2 g1 g2) : Upd w w2 g g2 := by
  obtain ⟨a, b⟩ := h
  obtain ⟨c, d⟩ := k
  refine ⟨⟨c.os.trans a.os, c.tape.trans a.tape, c.output.trans a.output, Nat.le_trans a.size c.size, fun i hi hne => ?_⟩, ?_⟩
  · have hne' : i ≠ g := by simpa using hne
    exact (c.block i (Nat.lt_of_lt_of_le hi a.size) (by simp; omega)).trans (a.block i hi hne)
  · have := a.size
    omega

theorem Upd.alloc_left {w w' : World} {g g' : Nat} {o : Obj} (h : Upd (w.alloc o) w' g g') : Upd w w' g g' := by
  obtain ⟨a, b⟩ := h
  have hs : (w.alloc o).heap.size = w.heap.size + 1 := by simp
  refine ⟨⟨a.os, a.tape, a.output, by have := a.size; omega, fun i hi hne => ?_⟩, by omega⟩
  exact (a.block i (by omega) hne).trans (Below.heap_alloc _ _ _ hi)

/-- A block that is not g keeps its cells. -/
theorem Upd.cell {w w' : World} {g g' : Nat} (h : Upd w w' g g') {a : Addr} (hb : a.block < w.heap.size) (hne : a.block ≠ g) : w'.cell? a = w.cell? a :=
  World.cell?_of_block (w := w) (h.1.block a.block hb (by simpa using hne))

/-- THE ROWS OF THE CALL, side by side, from block B on. -/
structure Own (B : Nat) (w0 w : World) (L : List Rw) : Prop where
  rows : ∀ r ∈ L, r.In w ∧ B ≤ r.g
  apart : (L.map Rw.g).Nodup
  below : Below B w0 w
  base : B ≤ w.heap.size

theorem Own.row {B : Nat} {w0 w : World} {L : List Rw} (h : Own B w0 w L) {i : Nat} {r : Rw} (hi : L[i]? = some r) : r.In w := (h.rows r (List.mem_of_getElem? hi)).1

theorem Own.alloc {B : Nat} {w0 w : World} {L : List Rw} (h : Own B w0 w L) (o : Obj) : Own B w0 (w.alloc o) L := by
  refine ⟨fun r hr => ⟨?_, (h.rows r hr).2⟩, h.apart, h.below.alloc h.base o, by have := h.base; simp; omega⟩
  obtain ⟨h1, h2, cur, hc, h3⟩ := (h.rows r hr).1
  have hlt := (h.rows r hr).1.lt
  exact ⟨h1, h2, cur, (Below.heap_alloc _ _ _ hlt).trans hc, h3⟩

theorem Own.perm {B : Nat} {w0 w : World} {L L' : List Rw} (h : Own B w0 w L) (hp : L.Perm L') : Own B w0 w L' :=
  ⟨fun r hr => h.rows r (hp.mem_iff.2 hr), (hp.map Rw.g).nodup_iff.1 h.apart, h.below, h.base⟩

theorem Own.empty (w : World) : Own w.heap.size w w [] := ⟨fun r hr => by simp at hr, by simp, Below.refl _ _, Nat.le_refl _⟩

/-- Some of the rows are given up. -/
theorem Own.firsts {B : Nat} {w0 w : World} {L : List Rw} (h : Own B w0 w L) (n : Nat) : Own B w0 w (L.take n) :=
  ⟨fun r hr => h.rows r (List.mem_of_mem_take hr), by rw [List.map_take]; exact h.apart.sublist (List.take_sublist _ _), h.below, h.base⟩

/-- A row that is new. -/
theorem Own.made {B : Nat} {w0 w : World} {L : List Rw} (h : Own B w0 w L) (e : TypeId) (cs : Array Value) (n : Nat) (hn : n ≤ cs.size) (hm : cs.size ≤ maxLen) :
    Own B w0 (w.alloc (.cells cs e)) (⟨e, w.heap.size, cs.size, cs.toList.take n⟩ :: L) := by
  have ha := h.alloc (.cells cs e)
  refine ⟨fun r hr => ?_, ?_, ha.below, ha.base⟩
  · rcases List.mem_cons.1 hr with rfl | hr
    · refine ⟨⟨by simp; omega, hm, cs, heap_alloc_new w _, rfl, ?_⟩, h.base⟩
      simp only [List.length_take, Array.length_toList]
      rw [Nat.min_eq_left hn]
    · exact ha.rows r hr
  · rw [List.map_cons, List.nodup_cons]
    refine ⟨fun hm => ?_, h.apart⟩
    obtain ⟨r, hr, he⟩ := List.mem_map.1 hm
    have := (h.rows r hr).1.lt
    simp only at he
    omega

/-- .. behind a 'make' of whatever size. -/
theorem Own.made' {B : Nat} {w0 w w' : World} {L : List Rw} (h : Own B w0 w L) (hg : w.grownBy w' none) {e : TypeId} {cap : Nat} {xs : List Value} (hr : (Rw.mk e w.heap.size cap xs).In w') : Own B w0 w' (⟨e, w.heap.size, cap, xs⟩ :: L) := by
  refine ⟨fun q hq => ?_, ?_, h.below.grown hg h.base (fun k hk => by simp at hk), Nat.le_trans h.base hg.size⟩
  · rcases List.mem_cons.1 hq with rfl | hq
    · exact ⟨hr, h.base⟩
    · have hlt := (h.rows q hq).1.lt
      obtain ⟨⟨h1, h2, cur, hc, h3⟩, h4⟩ := h.rows q hq
      exact ⟨⟨h1, h2, cur, (hg.block q.g hlt (by simp)).trans hc, h3⟩, h4⟩
  · rw [List.map_cons, List.nodup_cons]
    refine ⟨fun hm => ?_, h.apart⟩
    obtain ⟨q, hq, he⟩ := List.mem_map.1 hm
    have := (h.rows q hq).1.lt
    simp only at he
    omega

theorem nodup_set {L : List Nat} (hn : L.Nodup) {i : Nat} {x : Nat} (hx : ∀ j, j ≠ i → L[j]? ≠ some x) : (L.set i x).Nodup := by
  rw [List.nodup_iff_pairwise_ne, List.pairwise_iff_getElem]
  intro a b ha hb hab
  simp only [List.length_set] at ha hb
  have hd := (List.pairwise_iff_getElem.1 (List.nodup_iff_pairwise_ne.1 hn)) a b ha hb hab
  rw [List.getElem_set, List.getElem_set]
  split
  · split
    · omega
    · intro h
      exact hx b (by omega) (by rw [List.getElem?_eq_getElem hb, h])
  · split
    · intro h
      exact hx a (by omega) (by rw [List.getElem?_eq_getElem ha, h])
    · exact hd

/-- One row has turned. -/
theorem Own.upd {B : Nat} {w0 w w' : World} {L : List Rw} (h : Own B w0 w L) {i : Nat} {r r' : Rw} (hi : L[i]? = some r) (hu : Upd w w' r.g r'.g) (hr : r'.In w') : Own B w0 w' (L.set i r') := by
  have hrm := h.rows r (List.mem_of_getElem? hi)
  have hilt : i < L.length := (List.getElem?_eq_some_iff.1 hi).1
  have hiv : L[i] = r := (List.getElem?_eq_some_iff.1 hi).2
  have hap : ∀ j (hj : j < L.length), j ≠ i → L[j].g ≠ r.g := by
    intro j hj hne he
    have := (List.pairwise_iff_getElem.1 (List.nodup_iff_pairwise_ne.1 h.apart))
    rcases Nat.lt_or_gt_of_ne hne with hlt | hlt
    · exact this j i (by simpa using hj) (by simpa using hilt) hlt (by simp [he, hiv])
    · exact this i j (by simpa using hilt) (by simpa using hj) hlt (by simp [he, hiv])
  have hgB : B ≤ r'.g := by
    rcases hu.2 with e | e
    · rw [e]; exact hrm.2
    · have := h.base; omega
  refine ⟨fun q hq => ?_, ?_, h.below.grown hu.1 h.base (fun k hk => by have := hrm.2; simp at hk; omega), Nat.le_trans h.base hu.1.size⟩
  · obtain ⟨j, hj, he⟩ := List.mem_iff_getElem.1 hq
    simp only [List.length_set] at hj
    rw [List.getElem_set] at he
    split at he
    · subst he; exact ⟨hr, hgB⟩
    · rename_i hne
      subst he
      have hL := h.rows L[j] (List.getElem_mem hj)
      exact ⟨hL.1.kept hu.1 (hap j hj (by omega)), hL.2⟩
  · rw [List.map_set]
    refine nodup_set h.apart fun j hj he => ?_
    rw [List.getElem?_map] at he
    obtain ⟨q, hq, hg⟩ := Option.map_eq_some_iff.1 he
    have hqlt : j < L.length := (List.getElem?_eq_some_iff.1 hq).1
    have hqv : L[j] = q := (List.getElem?_eq_some_iff.1 hq).2
    rcases hu.2 with e | e
    · exact hap j hqlt hj (by rw [hqv, hg, e])
    · have := (h.rows q (List.mem_of_getElem? hq)).1.lt
      omega

/-- A row is cut shorter: no memory turns. -/
theorem Own.cut {B : Nat} {w0 w : World} {L : List Rw} (h : Own B w0 w L) {i e g cap : Nat} {xs : List Value} (hi : L[i]? = some ⟨e, g, cap, xs⟩) (k : Nat) : Own B w0 w (L.set i ⟨e, g, cap, xs.take k⟩) := by
  refine h.upd hi (Upd.refl w g) ?_
  obtain ⟨h1, h2, cur, hc, h3, h4⟩ := h.row hi
  simp only at h1 h4
  refine ⟨by simp only [List.length_take]; omega, h2, cur, hc, h3, ?_⟩
  simp only [List.length_take]
  have e4 : xs.take k = (cur.toList.take xs.length).take k := by rw [h4]
  rw [e4, List.take_take]

/-- A store into a row. -/
theorem Own.store {B : Nat} {w0 w : World} {L : List Rw} (h : Own B w0 w L) {i e g cap : Nat} {xs : List Value} (hi : L[i]? = some ⟨e, g, cap, xs⟩) (j : Nat) (u : Value) : Own B w0 (w.setCell ⟨g, j, none⟩ u) (L.set i ⟨e, g, cap, xs.set j u⟩) := by
  have hs := (h.row hi).owns.stored j u
  refine h.upd hi ⟨hs.2, .inl rfl⟩ ?_
  obtain ⟨h1, h2⟩ := hs.1
  obtain ⟨q1, q2, _⟩ := h.row hi
  rcases h2 with ⟨h2, _⟩ | ⟨g', cap', cur, hv, _, hh, _, _, hsz, ht⟩
  · simp at h2
  · simp only [Value.slice.injEq, Option.some.injEq, Addr.mk.injEq, and_true, true_and] at hv
    obtain ⟨rfl, rfl⟩ := hv
    exact ⟨by simpa using q1, q2, cur, hh, by simpa using hsz, by simpa using ht⟩

/-- APPEND, to a row that the call owns: the same block, or a new one. -/
theorem run_app {P : Program} (w : World) (t ty e : TypeId) (i : TypeInfo) (z : Value) (bytes : Nat) (ht : P.underlying t = some (.slice e)) (hi : P.info? e = some i) (hz : i.zero = some z)
    (hsize : i.size = 1) (hby : i.bytes = bytes) (hzs : z.cells.size = 1) (g n cap : Nat) (xs : List Value) (hn : xs.length = n) (hr : (Rw.mk e g cap xs).In w)
    (a : Addr) (m c : Nat) (news : List Value) (hl : news.length = m) (hnews : ∀ j u, news[j]? = some u → w.cell? (a.add j) = some u) (h1 : ∀ u ∈ news, u.oneCell' = true)
    (h63 : n + m ≤ maxLen) (hbytes : (n + m) * bytes ≤ 140737488355328) :
    ∃ g' cap' w', (Builtin.append_ #[t, t] ty #[.slice (some ⟨g, 0, none⟩) n cap, .slice (some a) m c]).run P w = .ok (.slice (some ⟨g', 0, none⟩) (n + m) cap') w' ∧ (Rw.mk e g' cap' (xs ++ news)).In w' ∧ Upd w w' g g' := by
  subst hby
  have hsmall : n + m ≤ 9223372036854775807 := by simp only [maxLen] at h63; omega
  have hown := hr.owns
  rw [hn] at hown
  obtain ⟨hnc, hcm, cur, hg, hcs, htake⟩ := hr
  simp only at hnc hcm hg hcs htake
  by_cases hroom : n + m ≤ cap
  · obtain ⟨w', hr', ho, hgr⟩ := run_append_fits (P := P) w 0 t ty e i 1 ht hi hsize g n cap xs hown a m c news (by omega) hnews h1 hroom
    refine ⟨g, cap, w', hr', ?_, hgr, .inl rfl⟩
    rcases ho.2 with ⟨h', _⟩ | ⟨g', cap', cur', hv, _, hh, _, _, hsz, ht'⟩
    · simp at h'
    · simp only [Value.slice.injEq, Option.some.injEq, Addr.mk.injEq, and_true, true_and] at hv
      obtain ⟨rfl, rfl⟩ := hv
      refine ⟨by simp; omega, hcm, cur', hh, by simpa using hsz, ?_⟩
      simp only [List.length_append]
      rw [hn, hl]
      simpa using ht'
  · have holds : ∀ j u, xs[j]? = some u → w.cell? ((⟨g, 0, none⟩ : Addr).add j) = some u := hown.cells (g := g) rfl
    have hr' := run_append_grow (P := P) w t ty e i z ht hi hz ⟨g, 0, none⟩ n cap xs (by rw [hsize]; omega) holds a m c news (by rw [hsize]; omega) hnews (by omega) (by omega) (growslice_fits (by omega) hbytes)
    have hge := grownCap_ge w (n + m) cap e
    have hcm' : grownCap w (n + m) cap e ≤ maxLen := grownCap_le_maxLen w (n + m) cap e h63
    refine ⟨_, _, _, hr', ⟨?_, hcm', _, heap_alloc_new w.drew _, ?_, ?_⟩, ⟨rfl, rfl, rfl, by simp, fun k hk _ => Below.heap_alloc w.drew _ k hk⟩, .inr (Nat.le_refl _)⟩
    · simp only [List.length_append]; omega
    · simp only [Array.size_append, List.size_toArray, size_zeroCells, hzs, hn, hl]
      omega
    · simp only [Array.toList_append]
      exact List.take_left

theorem wpList_app {P : Program} (w : World) {ops : Array Oper} {rest : List Oper} {o : Oper} {a : Act} {Q : Exit → Act → World → Prop}
    (hg : o.guard = none) (s x : Operand) (t : TypeId) (hop : o.op = Op.call { callee := Callee.builtin Builtin.append, args := #[s, x], argTypes := #[t, t] })
    (e : TypeId) (i : TypeInfo) (z : Value) (bytes : Nat) (h1 : P.underlying t = some (.slice e)) (h2 : P.info? e = some i) (h3 : i.zero = some z) (h4 : i.size = 1) (h5 : i.bytes = bytes) (hzs : z.cells.size = 1)
    (g n cap : Nat) (hs : a.eval s = .slice (some ⟨g, 0, none⟩) n cap) (ad : Addr) (m c : Nat) (hx : a.eval x = .slice (some ad) m c)
    (xs news : List Value) (hn : xs.length = n) (hr : (Rw.mk e g cap xs).In w) (hl : news.length = m) (hnews : ∀ j u, news[j]? = some u → w.cell? (ad.add j) = some u) (h1c : ∀ u ∈ news, u.oneCell' = true)
    (h63 : n + m ≤ maxLen) (hbytes : (n + m) * bytes ≤ 140737488355328)
    (hK : ∀ g' cap' w', (Rw.mk e g' cap' (xs ++ news)).In w' → Upd w w' g g' → wpList P ops Q rest (a.put o.dst (.slice (some ⟨g', 0, none⟩) (n + m) cap')) w') :
    wpList P ops Q (o :: rest) a w := by
  refine wpList_plain hg fun K hK' => ?_
  obtain ⟨g', cap', w', hrun, r1, r2⟩ := run_app (P := P) w t o.type e i z bytes h1 h2 h3 h4 h5 hzs g n cap xs hn hr ad m c news hl hnews h1c h63 hbytes
  unfold Oper.wp
  simp [execOp, hop, resolve, invoke, builtin, hs, hx, hrun, Result.andThen]
  exact hK' _ _ (hK g' cap' w' r1 r2)

/-- The cells of a new block, as 'wpList_app' asks for them. -/
theorem new_cells (w : World) (cs : List Value) (e : TypeId) : ∀ j u, cs[j]? = some u → (w.alloc (.cells cs.toArray e)).cell? ((⟨w.heap.size, 0, none⟩ : Addr).add j) = some u := by
  intro j u hu
  have hadd : (⟨w.heap.size, 0, none⟩ : Addr).add j = ⟨w.heap.size, j, none⟩ := by unfold Addr.add; split <;> simp_all
  rw [hadd, cell_of_row _ w.heap.size j cs.toArray e (0, 0) (heap_alloc_new w _)]
  simpa using hu

/-- APPEND to one of the rows of the call: what is appended lies in the block that was made last. -/
theorem wpList_own {P : Program} {B : Nat} {w0 w : World} {L : List Rw} (hO : Hid (Own B w0 w L)) {ops : Array Oper} {rest : List Oper} {o : Oper} {a : Act} {Q : Exit → Act → World → Prop}
    (hg : o.guard = none) (s x : Operand) (t : TypeId) (hop : o.op = Op.call { callee := Callee.builtin Builtin.append, args := #[s, x], argTypes := #[t, t] })
    (e : TypeId) (i : TypeInfo) (z : Value) (bytes : Nat) (h1 : P.underlying t = some (.slice e)) (h2 : P.info? e = some i) (h3 : i.zero = some z) (h4 : i.size = 1) (h5 : i.bytes = bytes) (hzs : z.cells.size = 1)
    (j g n cap : Nat) (xs news : List Value) (hj : L[j]? = some ⟨e, g, cap, xs⟩) (hs : a.eval s = .slice (some ⟨g, 0, none⟩) n cap) (m c N : Nat) (hN : w.heap.size = N) (hx : a.eval x = .slice (some ⟨N, 0, none⟩) m c)
    (hn : xs.length = n) (hl : news.length = m) (h1c : ∀ u ∈ news, u.oneCell' = true)
    (h63 : n + m ≤ maxLen) (hbytes : (n + m) * bytes ≤ 140737488355328)
    (hK : ∀ g' cap' w', Hid (Own B w0 w' (L.set j ⟨e, g', cap', xs ++ news⟩)) → wpList P ops Q rest (a.put o.dst (.slice (some ⟨g', 0, none⟩) (n + m) cap')) w') :
    wpList P ops Q (o :: rest) a (w.alloc (.cells news.toArray e)) :=
  wpList_app _ hg s x t hop e i z bytes h1 h2 h3 h4 h5 hzs g n cap hs _ m c (by rw [hN]; exact hx) xs news hn ((hO.out.row hj).alloc _) hl (new_cells w news e) h1c h63 hbytes
    fun g' cap' w' hR hU => hK g' cap' w' ((hO.out.alloc _).upd hj hU hR)

end Go.Proofs.Qxb6600775a
