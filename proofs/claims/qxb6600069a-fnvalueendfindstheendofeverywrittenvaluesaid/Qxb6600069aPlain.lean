/-
  THE PLAIN LAW OF SEAT b6600069a: no Go in sight. What 'serializeValuesB1' writes ('gen', 'stR', 'enR'), what 'valueEnd', 'stringEnd', 'skipSpace' answer ('vlen', 'sE', 'spn'), and that they fit.
-/
namespace Go.Proofs.Qxb6600069a.Plain

/-- How many bytes behind a string's opening quote are taken, the closing quote among them. -/
def sE : List Int → Nat
  | [] => 0
  | [_] => 1
  | c :: d :: t => if c = 92 then 2 + sE t else if c = 34 then 1 else 1 + sE (d :: t)

/-- How many bytes a bracketed value takes: depth, mode (0 plain, 1 in a string, else behind a backslash). -/
def bR : Nat → Nat → List Int → Nat
  | _, _, [] => 0
  | d, 0, c :: t => if c = 34 then 1 + bR d 1 t else if c = 123 ∨ c = 91 then 1 + bR (d + 1) 0 t else if c = 125 ∨ c = 93 then (if d = 1 then 1 else 1 + bR (d - 1) 0 t) else 1 + bR d 0 t
  | d, 1, c :: t => if c = 92 then 1 + bR d 2 t else if c = 34 then 1 + bR d 0 t else 1 + bR d 1 t
  | d, _ + 2, _ :: t => 1 + bR d 1 t

def isSp (c : Int) : Bool := c == 32 || c == 9 || c == 10 || c == 13
def isDl (c : Int) : Bool := c == 44 || c == 93 || c == 125 || c == 32 || c == 9 || c == 10 || c == 13

def spn : List Int → Nat
  | [] => 0
  | c :: t => if isSp c then 1 + spn t else 0

def scal : List Int → Nat
  | [] => 0
  | c :: t => if isDl c then 0 else 1 + scal t

def vlen : List Int → Nat
  | [] => 0
  | c :: t => if c = 34 then 1 + sE t else if c = 123 ∨ c = 91 then bR 0 0 (c :: t) else scal (c :: t)

theorem sE_le : ∀ l : List Int, sE l ≤ l.length
  | [] => by simp [sE]
  | [_] => by simp [sE]
  | c :: d :: t => by
    have h1 := sE_le t
    have h2 := sE_le (d :: t)
    simp only [sE, List.length_cons] at *
    split
    · omega
    · split <;> omega

/-- The string inside a bracketed value. -/
theorem bR_str (d : Nat) : ∀ l : List Int, bR d 1 l = sE l + bR d 0 (l.drop (sE l))
  | [] => by simp [bR, sE]
  | [_] => by simp [bR, sE]
  | c :: e :: t => by
    have h1 := bR_str d t
    have h2 := bR_str d (e :: t)
    by_cases h : c = 92
    · have e1 : sE (c :: e :: t) = sE t + 1 + 1 := by simp only [sE, if_pos h]; omega
      have e2 : bR d 1 (c :: e :: t) = 1 + (1 + bR d 1 t) := by simp only [bR, if_pos h]
      rw [e1, e2, h1, List.drop_succ_cons, List.drop_succ_cons]
      omega
    · by_cases h' : c = 34
      · have e1 : sE (c :: e :: t) = 1 := by simp only [sE, if_neg h, if_pos h']
        have e2 : bR d 1 (c :: e :: t) = 1 + bR d 0 (e :: t) := by generalize e :: t = r; rw [bR, if_neg h, if_pos h']
        rw [e1, e2]; rfl
      · have e1 : sE (c :: e :: t) = sE (e :: t) + 1 := by simp only [sE, if_neg h, if_neg h']; omega
        have e2 : bR d 1 (c :: e :: t) = 1 + bR d 1 (e :: t) := by generalize e :: t = r; rw [bR, if_neg h, if_neg h']
        rw [e1, e2, h2, List.drop_succ_cons]
        omega

abbrev Stack := List (Bool × Bool)
def keyB : List Int := [34, 107, 93, 92, 34, 34, 58, 32]
def sepB : List Int := [9, 44, 32, 10]
def body (op : Int) : List Int :=
  if op = 0 then [91] else if op = 1 then [123] else if op = 3 then [34, 97, 92, 34, 93, 125, 123, 91, 44, 92, 92, 34]
  else if op = 4 then [45, 49, 50, 46, 53, 101, 43, 51] else if op = 5 then [116, 114, 117, 101] else if op = 6 then [110, 117, 108, 108] else [34, 34]
def pre (first : Bool) : Stack → List Int
  | [] => if first then [] else sepB
  | (o, h) :: _ => (if h then [44, 32] else []) ++ (if o then keyB else [])
def mark : Stack → Stack
  | [] => []
  | (o, _) :: s => (o, true) :: s
def push (op : Int) (st : Stack) : Stack := if op = 0 then (false, false) :: mark st else if op = 1 then (true, false) :: mark st else mark st
def closeB (o : Bool) : Int := if o then 125 else 93
def closers (st : Stack) : List Int := st.map fun p => closeB p.1

def gen (first : Bool) (st : Stack) : List Int → List Int
  | [] => closers st
  | op :: ops => if op = 2 then (match st with | [] => gen first [] ops | (o, _) :: s => closeB o :: gen first s ops)
    else (pre first st ++ body op) ++ gen false (push op st) ops
def stR (first : Bool) (pos : Nat) (st : Stack) : List Int → List Nat
  | [] => []
  | op :: ops => if op = 2 then (match st with | [] => stR first pos [] ops | _ :: s => stR first (pos + 1) s ops)
    else (match st with | [] => [pos + (pre first []).length] | _ :: _ => []) ++ stR false (pos + (pre first st ++ body op).length) (push op st) ops
def enR (first : Bool) (pos : Nat) (st : Stack) : List Int → List Nat
  | [] => match st with | [] => [] | _ :: _ => [pos + st.length]
  | op :: ops => if op = 2 then (match st with | [] => enR first pos [] ops | [_] => (pos + 1) :: enR first (pos + 1) [] ops | _ :: p :: s => enR first (pos + 1) (p :: s) ops)
    else (match st with | [] => (if 3 ≤ op then [pos + (pre first [] ++ body op).length] else []) | _ :: _ => []) ++ enR false (pos + (pre first st ++ body op).length) (push op st) ops

/-- At place 's' of the text a value begins that ends at 'e'. -/
def Good (W : List Int) (s e : Nat) : Prop := s < W.length ∧ s + vlen (W.drop s) = e
/-- From 'pos', just behind a value, on. -/
def Ch (W tail : List Int) : Nat → List Nat → List Nat → Prop
  | pos, [], [] => W.drop pos = tail
  | pos, s :: ss, e :: es => (∃ c t, W.drop pos = 9 :: 44 :: 32 :: 10 :: c :: t ∧ isSp c = false) ∧ s = pos + 4 ∧ Good W s e ∧ Ch W tail e ss es
  | _, _, _ => False

theorem bR_pre (d : Nat) (first : Bool) (p : Bool × Bool) (s : Stack) (r : List Int) : bR d 0 (pre first (p :: s) ++ r) = (pre first (p :: s)).length + bR d 0 r := by
  obtain ⟨o, h⟩ := p
  cases o <;> cases h <;> simp [pre, keyB, bR] <;> omega

theorem bR_body (d : Nat) (op : Int) (r : List Int) : bR d 0 (body op ++ r) = (body op).length + bR (if op = 0 ∨ op = 1 then d + 1 else d) 0 r := by
  unfold body
  by_cases h0 : op = 0
  · simp [h0, bR]
  by_cases h1 : op = 1
  · simp [h1, bR]
  by_cases h3 : op = 3
  · simp [h3, bR]; omega
  by_cases h4 : op = 4
  · simp [h4, bR]; omega
  by_cases h5 : op = 5
  · simp [h5, bR]; omega
  by_cases h6 : op = 6
  · simp [h6, bR]; omega
  simp [h0, h1, h3, h4, h5, h6, bR]; omega

theorem push_length (op : Int) (st : Stack) : (push op st).length = if op = 0 ∨ op = 1 then st.length + 1 else st.length := by
  have hm : (mark st).length = st.length := by cases st <;> simp [mark]
  unfold push
  by_cases h0 : op = 0
  · simp [h0, hm]
  by_cases h1 : op = 1
  · simp [h1, hm]
  simp [h0, h1, hm]

theorem bR_closers (st : Stack) (h : st ≠ []) (r : List Int) : bR st.length 0 (closers st ++ r) = st.length := by
  induction st with
  | nil => exact absurd rfl h
  | cons p s ih =>
    obtain ⟨o, hh⟩ := p
    cases s with
    | nil => cases o <;> simp [closers, closeB, bR]
    | cons q s =>
      have ih' := ih (by simp)
      have e : closers ((o, hh) :: q :: s) ++ r = closeB o :: (closers (q :: s) ++ r) := by simp [closers]
      rw [e]
      cases o <;> simp only [closeB, bR] <;> simp <;> (simp only [List.length_cons] at ih'; rw [ih']; omega)

theorem body_len (op : Int) : 1 ≤ (body op).length ∧ (body op).length ≤ 12 := by
  unfold body; repeat' split
  all_goals simp
theorem pre_len (first : Bool) (st : Stack) : (pre first st).length ≤ 10 := by
  cases st with
  | nil => cases first <;> simp [pre, sepB]
  | cons p s => obtain ⟨o, h⟩ := p; cases o <;> cases h <;> simp [pre, keyB]

/-- A scalar's own bytes hold no delimiter; a string closes where it ends. -/
theorem vlen_body (op : Int) (h0 : ¬ op = 0) (h1 : ¬ op = 1) (r : List Int) (hr : ∀ c t, r = c :: t → isDl c = true) : vlen (body op ++ r) = (body op).length := by
  have hs : scal r = 0 := by
    cases r with
    | nil => rfl
    | cons c t => simp [scal, hr c t rfl]
  unfold body
  by_cases h3 : op = 3
  · have : sE (34 :: r) = 1 := by cases r <;> simp [sE]
    simp [h3, vlen, sE, this]
  by_cases h4 : op = 4
  · simp [h4, vlen, scal, isDl, hs]
  by_cases h5 : op = 5
  · simp [h5, vlen, scal, isDl, hs]
  by_cases h6 : op = 6
  · simp [h6, vlen, scal, isDl, hs]
  · simp [h0, h1, h3, h4, h5, h6, vlen]
    cases r <;> simp [sE]

theorem body_head (op : Int) : ∃ c t, body op = c :: t ∧ isSp c = false := by
  unfold body; repeat' split
  all_goals exact ⟨_, _, rfl, by decide⟩

/-- Behind a value that stands alone: the tail, or the four bytes between two values. -/
theorem gen_top (ops : List Int) (tail : List Int) (ht : ∀ c t, tail = c :: t → isDl c = true) : ∀ c t, gen false [] ops ++ tail = c :: t → isDl c = true := by
  induction ops with
  | nil => simpa [gen, closers] using ht
  | cons op ops ih =>
    by_cases h2 : op = 2
    · simpa [gen, h2] using ih
    · intro c t h
      simp only [gen, if_neg h2, pre, sepB] at h
      simp at h
      rw [← h.1]; decide

theorem drop_next {W a b : List Int} {pos : Nat} (h : W.drop pos = a ++ b) : W.drop (pos + a.length) = b := by
  rw [← List.drop_drop, h, List.drop_left]
theorem drop_lt {W b : List Int} {c : Int} {pos : Nat} (h : W.drop pos = c :: b) : pos < W.length := by
  by_cases hl : pos < W.length
  · exact hl
  · rw [List.drop_of_length_le (by omega)] at h; cases h

/-- THE PLAIN LAW, in one induction over the ops that are left. -/
theorem law (W tail : List Int) (ht : ∀ c t, tail = c :: t → isDl c = true) (ops : List Int) (hops : ∀ o ∈ ops, 0 ≤ o) : ∀ (st : Stack) (pos : Nat) (first : Bool), W.drop pos = gen first st ops ++ tail →
    (st = [] → first = false → Ch W tail pos (stR first pos st ops) (enR first pos st ops)) ∧
    (st = [] → first = true → (stR first pos st ops = [] ∧ enR first pos st ops = [] ∧ W.drop pos = tail) ∨
      ∃ c t e ss es, W.drop pos = c :: t ∧ isSp c = false ∧ stR first pos st ops = pos :: ss ∧ enR first pos st ops = e :: es ∧ Good W pos e ∧ Ch W tail e ss es) ∧
    (st ≠ [] → first = false → ∃ es, enR first pos st ops = (pos + bR st.length 0 (W.drop pos)) :: es ∧ Ch W tail (pos + bR st.length 0 (W.drop pos)) (stR first pos st ops) es) := by
  induction ops with
  | nil =>
    intro st pos first hW
    refine ⟨?_, ?_, ?_⟩
    · rintro rfl rfl
      simpa [stR, enR, Ch, gen, closers] using hW
    · rintro rfl rfl
      exact .inl ⟨rfl, rfl, by simpa [gen, closers] using hW⟩
    · intro hst hf
      have hb : bR st.length 0 (W.drop pos) = st.length := by rw [hW, gen]; exact bR_closers st hst tail
      have hlen : (closers st).length = st.length := by simp [closers]
      rw [hb]
      refine ⟨[], ?_, ?_⟩
      · cases st with
        | nil => exact absurd rfl hst
        | cons p s => rfl
      · simp only [stR, Ch]
        have := drop_next (a := closers st) (b := tail) (by simpa [gen] using hW)
        rwa [hlen] at this
  | cons op ops ih =>
    intro st pos first hW
    have ho : 0 ≤ op := hops op (by simp)
    have ih := ih fun o h => hops o (by simp [h])
    by_cases h2 : op = 2
    · simp only [gen, stR, enR, if_pos h2] at hW ⊢
      cases st with
      | nil =>
        exact ⟨fun _ => (ih [] pos first hW).1 rfl, fun _ => (ih [] pos first hW).2.1 rfl, fun h => absurd rfl h⟩
      | cons p s =>
        obtain ⟨o, hh⟩ := p
        simp only [List.cons_append] at hW
        have hW' : W.drop (pos + 1) = gen first s ops ++ tail := drop_next (a := [closeB o]) (by simpa using hW)
        refine ⟨fun h => by simp at h, fun h => by simp at h, fun _ hf => ?_⟩
        subst hf
        cases s with
        | nil =>
          have hb : bR [(o, hh)].length 0 (W.drop pos) = 1 := by rw [hW]; cases o <;> simp [closeB, bR]
          rw [hb]
          exact ⟨_, rfl, (ih [] (pos + 1) false hW').1 rfl rfl⟩
        | cons q s =>
          have hb : bR ((o, hh) :: q :: s).length 0 (W.drop pos) = 1 + bR (q :: s).length 0 (W.drop (pos + 1)) := by rw [hW, hW']; cases o <;> simp [closeB, bR]
          obtain ⟨es, h1, h2'⟩ := (ih (q :: s) (pos + 1) false hW').2.2 (by simp) rfl
          rw [hb, ← Nat.add_assoc]
          exact ⟨es, h1, h2'⟩
    · simp only [gen, stR, enR, if_neg h2, List.append_assoc] at hW ⊢
      have hW1 : W.drop (pos + (pre first st).length) = body op ++ (gen false (push op st) ops ++ tail) := drop_next hW
      have hW2 : W.drop (pos + (pre first st ++ body op).length) = gen false (push op st) ops ++ tail := by
        rw [List.length_append, ← Nat.add_assoc]; exact drop_next hW1
      have IH := ih (push op st) _ false hW2
      cases st with
      | cons p s =>
        refine ⟨fun h => by simp at h, fun h => by simp at h, fun _ hf => ?_⟩
        subst hf
        have hpl := push_length op (p :: s)
        have hne : push op (p :: s) ≠ [] := by
          intro h; rw [h] at hpl; simp only [List.length_nil, List.length_cons] at hpl; split at hpl <;> omega
        obtain ⟨es, h1, h2'⟩ := IH.2.2 hne rfl
        have hb : pos + bR (p :: s).length 0 (W.drop pos) = pos + (pre false (p :: s) ++ body op).length + bR (push op (p :: s)).length 0 (W.drop (pos + (pre false (p :: s) ++ body op).length)) := by
          rw [hW, bR_pre, bR_body, hW2, hpl, List.length_append]; omega
        rw [hb]
        exact ⟨es, by simpa using h1, by simpa using h2'⟩
      | nil =>
        obtain ⟨bc, bt, hbody, hsp⟩ := body_head op
        have hlt : pos + (pre first []).length < W.length := drop_lt (by rw [hW1, hbody]; rfl)
        -- the value that begins here
        have key : ∃ e es, (if 3 ≤ op then [pos + (pre first [] ++ body op).length] else []) ++ enR false (pos + (pre first [] ++ body op).length) (push op []) ops = e :: es ∧
            Good W (pos + (pre first []).length) e ∧ Ch W tail e (stR false (pos + (pre first [] ++ body op).length) (push op []) ops) es := by
          by_cases h01 : op = 0 ∨ op = 1
          · have hne : push op [] ≠ [] := by rcases h01 with rfl | rfl <;> simp [push]
            have hl : (push op []).length = 1 := by rw [push_length, if_pos h01]; rfl
            obtain ⟨es, h1, h2'⟩ := IH.2.2 hne rfl
            have h3 : ¬ 3 ≤ op := by omega
            rw [if_neg h3]
            refine ⟨_, es, by simpa using h1, ⟨hlt, ?_⟩, h2'⟩
            rw [hW1, hl, hW2, List.length_append]
            rcases h01 with rfl | rfl <;> simp [body, vlen, bR] <;> omega
          · have h0 : ¬ op = 0 := fun h => h01 (.inl h)
            have h1 : ¬ op = 1 := fun h => h01 (.inr h)
            have hp : push op [] = [] := by simp [push, h0, h1, mark]
            rw [hp] at hW1 hW2 IH ⊢
            by_cases h3 : 3 ≤ op
            · rw [if_pos h3]
              refine ⟨_, _, rfl, ⟨hlt, ?_⟩, IH.1 rfl rfl⟩
              rw [hW1, vlen_body op h0 h1 _ (gen_top ops tail ht), List.length_append]
              omega
            · exfalso; omega
        obtain ⟨e, es, k1, k2, k3⟩ := key
        refine ⟨?_, ?_, fun h => absurd rfl h⟩
        · rintro - rfl
          simp only [List.cons_append, List.nil_append]
          rw [k1]
          refine ⟨⟨bc, bt ++ (gen false (push op []) ops ++ tail), ?_, hsp⟩, rfl, k2, k3⟩
          rw [hW, hbody]; rfl
        · rintro - rfl
          refine .inr ⟨bc, bt ++ (gen false (push op []) ops ++ tail), e, _, es, ?_, hsp, rfl, k1, k2, k3⟩
          rw [hW, hbody]; rfl

end Go.Proofs.Qxb6600069a.Plain
