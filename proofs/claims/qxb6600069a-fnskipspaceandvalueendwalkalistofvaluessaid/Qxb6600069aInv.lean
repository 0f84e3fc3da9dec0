/-
  SEAT b6600069a: what a round of serializeValuesB1's loop does to what has been written so far. No Go in sight.
-/
import Derived.Test.Qxb6600069aPlain
namespace Go.Proofs.Qxb6600069a.Plain

def Inv (ops : List Int) (k : Nat) (buf : List Int) (ss es : List Nat) (st : Stack) : Prop :=
  buf ++ gen ss.isEmpty st (ops.drop k) = gen true [] ops ∧
  ss ++ stR ss.isEmpty buf.length st (ops.drop k) = stR true 0 [] ops ∧
  es ++ enR ss.isEmpty buf.length st (ops.drop k) = enR true 0 [] ops ∧
  buf.length ≤ 24 * k ∧ ss.length ≤ k ∧ es.length ≤ k ∧ st.length ≤ k ∧ (ss = [] → st = [])

theorem Inv.start (ops : List Int) : Inv ops 0 [] [] [] [] := by simp [Inv]

theorem drop_op {ops : List Int} {k : Nat} {op : Int} (h : k < ops.length) (ho : ops.getD k 0 = op) : ops.drop k = op :: ops.drop (k + 1) := by
  rw [List.drop_eq_getElem_cons h, ← ho]; simp [List.getD, h]

theorem Inv.idle {ops : List Int} {k : Nat} {buf : List Int} {ss es : List Nat} (h : Inv ops k buf ss es []) (hk : k < ops.length) (ho : ops.getD k 0 = 2) : Inv ops (k + 1) buf ss es [] := by
  obtain ⟨h1, h2, h3, h4, h5, h6, h7, h8⟩ := h
  rw [drop_op hk ho] at h1 h2 h3
  exact ⟨h1, h2, h3, by omega, by omega, by omega, by omega, h8⟩

theorem Inv.close1 {ops : List Int} {k : Nat} {buf : List Int} {ss es : List Nat} {o x : Bool} (h : Inv ops k buf ss es [(o, x)]) (hk : k < ops.length) (ho : ops.getD k 0 = 2) :
    Inv ops (k + 1) (buf ++ [closeB o]) ss (es ++ [buf.length + 1]) [] := by
  obtain ⟨h1, h2, h3, h4, h5, h6, h7, h8⟩ := h
  rw [drop_op hk ho] at h1 h2 h3
  refine ⟨by simpa [gen] using h1, by simpa [stR] using h2, by simpa [enR] using h3, by simp; omega, by omega, by simp; omega, by simp, fun _ => rfl⟩

theorem Inv.close2 {ops : List Int} {k : Nat} {buf : List Int} {ss es : List Nat} {o x : Bool} {p : Bool × Bool} {s : Stack} (h : Inv ops k buf ss es ((o, x) :: p :: s)) (hk : k < ops.length) (ho : ops.getD k 0 = 2) :
    Inv ops (k + 1) (buf ++ [closeB o]) ss es (p :: s) := by
  obtain ⟨h1, h2, h3, h4, h5, h6, h7, h8⟩ := h
  rw [drop_op hk ho] at h1 h2 h3
  refine ⟨by simpa [gen] using h1, by simpa [stR] using h2, by simpa [enR] using h3, by simp; omega, by omega, by omega, by simp at h7 ⊢; omega, fun e => by simpa using h8 e⟩

/-- A value at the top. -/
theorem Inv.top {ops : List Int} {k : Nat} {buf : List Int} {ss es : List Nat} {op : Int} (h : Inv ops k buf ss es []) (hk : k < ops.length) (ho : ops.getD k 0 = op) (h2 : ¬ op = 2) :
    Inv ops (k + 1) ((buf ++ pre ss.isEmpty []) ++ body op) (ss ++ [(buf ++ pre ss.isEmpty []).length]) (es ++ if 3 ≤ op then [((buf ++ pre ss.isEmpty []) ++ body op).length] else []) (push op []) := by
  obtain ⟨h1, h2', h3, h4, h5, h6, h7, h8⟩ := h
  rw [drop_op hk ho] at h1 h2' h3
  have hb := (body_len op).2
  have hp := pre_len ss.isEmpty []
  have hpl := push_length op []
  have hne : (ss ++ [(buf ++ pre ss.isEmpty []).length]).isEmpty = false := by simp
  simp only [gen, stR, enR, if_neg h2] at h1 h2' h3
  refine ⟨?_, ?_, ?_, ?_, ?_, ?_, ?_, fun e => by simp at e⟩
  · rw [hne, ← h1]; simp
  · rw [hne, ← h2']; simp
  · rw [hne, ← h3]; simp
  · simp; omega
  · simp; omega
  · split <;> simp <;> omega
  · rw [hpl]; split <;> simp

/-- A value inside an array or an object. -/
theorem Inv.deep {ops : List Int} {k : Nat} {buf : List Int} {ss es : List Nat} {op : Int} {p : Bool × Bool} {s : Stack} (h : Inv ops k buf ss es (p :: s)) (hk : k < ops.length) (ho : ops.getD k 0 = op) (h2 : ¬ op = 2) :
    Inv ops (k + 1) ((buf ++ pre ss.isEmpty (p :: s)) ++ body op) ss es (push op (p :: s)) := by
  obtain ⟨h1, h2', h3, h4, h5, h6, h7, h8⟩ := h
  rw [drop_op hk ho] at h1 h2' h3
  have hb := (body_len op).2
  have hp := pre_len ss.isEmpty (p :: s)
  have hpl := push_length op (p :: s)
  have hne : ss.isEmpty = false := by
    cases ss with
    | nil => have := h8 rfl; simp at this
    | cons _ _ => rfl
  simp only [gen, stR, enR, if_neg h2] at h1 h2' h3
  refine ⟨?_, ?_, ?_, ?_, ?_, ?_, ?_, fun e => by subst e; have := h8 rfl; simp at this⟩
  · rw [hne] at h1 ⊢; rw [← h1]; simp
  · rw [hne] at h2' ⊢; rw [← h2']; simp
  · rw [hne] at h3 ⊢; rw [← h3]; simp
  · simp; omega
  · omega
  · omega
  · rw [hpl]; simp at h7 ⊢; split <;> omega

theorem Inv.done {ops : List Int} {k : Nat} {buf : List Int} {ss es : List Nat} {st : Stack} (h : Inv ops k buf ss es st) (hk : k = ops.length) :
    buf ++ closers st = gen true [] ops ∧ ss = stR true 0 [] ops ∧ es ++ (if st = [] then [] else [(buf ++ closers st).length]) = enR true 0 [] ops := by
  obtain ⟨h1, h2', h3, _⟩ := h
  subst hk
  rw [List.drop_length] at h1 h2' h3
  refine ⟨h1, by simpa [stR] using h2', ?_⟩
  cases st with
  | nil => simpa [enR] using h3
  | cons p s => simpa [enR, closers] using h3

theorem body_byte (op : Int) : ∀ b ∈ body op, 0 ≤ b ∧ b ≤ 255 := by
  unfold body; repeat' split
  all_goals (intro b hb; simp at hb; omega)
theorem pre_byte (first : Bool) (st : Stack) : ∀ b ∈ pre first st, 0 ≤ b ∧ b ≤ 255 := by
  cases st with
  | nil => cases first <;> (intro b hb; simp [pre, sepB] at hb; try omega)
  | cons p s => obtain ⟨o, h⟩ := p; cases o <;> cases h <;> (intro b hb; simp [pre, keyB] at hb; try omega)
theorem closeB_byte (o : Bool) : 0 ≤ closeB o ∧ closeB o ≤ 255 := by cases o <;> simp [closeB]

theorem gen_byte (ops : List Int) : ∀ (first : Bool) (st : Stack), ∀ b ∈ gen first st ops, 0 ≤ b ∧ b ≤ 255 := by
  induction ops with
  | nil => intro first st b hb; obtain ⟨p, _, rfl⟩ := List.mem_map.1 hb; exact closeB_byte p.1
  | cons op ops ih =>
    intro first st b hb
    by_cases h2 : op = 2
    · simp only [gen, if_pos h2] at hb
      cases st with
      | nil => exact ih _ _ b hb
      | cons p s =>
        rcases List.mem_cons.1 hb with rfl | hb
        · exact closeB_byte _
        · exact ih _ _ b hb
    · simp only [gen, if_neg h2] at hb
      rcases List.mem_append.1 hb with hb | hb
      · rcases List.mem_append.1 hb with hb | hb
        · exact pre_byte _ _ b hb
        · exact body_byte _ b hb
      · exact ih _ _ b hb

end Go.Proofs.Qxb6600069a.Plain
