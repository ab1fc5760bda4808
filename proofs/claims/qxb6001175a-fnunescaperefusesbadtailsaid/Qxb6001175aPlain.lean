/-
  PLAIN LAWS of escaping and unescaping: lists of bytes alone, no Go in sight.
-/
namespace Go.Proofs.Qxb6001175a

def sp (c : UInt8) : Bool := c == 92 || c == 44 || c == 61
def escB (c : UInt8) : List UInt8 := if sp c then [92, c] else [c]
def esc (l : List UInt8) : List UInt8 := l.flatMap escB

theorem esc_snoc (l : List UInt8) (c : UInt8) : esc (l ++ [c]) = esc l ++ escB c := by
  simp [esc, List.flatMap_append]
theorem esc_len (l : List UInt8) : (esc l).length ≤ 2 * l.length := by
  induction l with
  | nil => simp [esc]
  | cons c l ih =>
    have h : esc (c :: l) = escB c ++ esc l := by simp [esc]
    rw [h, List.length_append, List.length_cons]
    have h2 : (escB c).length ≤ 2 := by unfold escB; split <;> simp
    omega

/-- The reader's state: is an escape open; what has been read. -/
def step (st : Bool × List UInt8) (c : UInt8) : Option (Bool × List UInt8) :=
  if st.1 = true then (if sp c = true then some (false, st.2 ++ [c]) else none)
  else if c = 92 then some (true, st.2)
  else if c = 44 ∨ c = 61 then none
  else some (false, st.2 ++ [c])
def un : List UInt8 → Bool × List UInt8 → Option (Bool × List UInt8)
  | [], st => some st
  | c :: l, st => (step st c).bind (un l)

theorem un_append (a b : List UInt8) (st : Bool × List UInt8) : un (a ++ b) st = (un a st).bind (un b) := by
  induction a generalizing st with
  | nil => simp [un]
  | cons c a ih =>
    simp only [List.cons_append, un]
    cases step st c with
    | none => rfl
    | some s => simp [ih]
theorem un_snoc (a : List UInt8) (c : UInt8) (st st' : Bool × List UInt8) (h : un a st = some st') : un (a ++ [c]) st = step st' c := by
  rw [un_append, h]
  simp only [Option.bind_some, un]
  cases step st' c <;> rfl
theorem un_none (a b : List UInt8) (st : Bool × List UInt8) (h : un a st = none) : un (a ++ b) st = none := by
  rw [un_append, h]; rfl

theorem un_escB (c : UInt8) (b : List UInt8) : un (escB c) (false, b) = some (false, b ++ [c]) := by
  unfold escB
  by_cases h : sp c = true
  · simp [h, un, step]
  · have h' := h
    simp only [sp, Bool.or_eq_true, beq_iff_eq, not_or] at h'
    simp [h, un, step, h'.1.1, h'.1.2, h'.2]
theorem un_esc (l : List UInt8) (b : List UInt8) : un (esc l) (false, b) = some (false, b ++ l) := by
  induction l generalizing b with
  | nil => simp [esc, un]
  | cons c l ih =>
    have h : esc (c :: l) = escB c ++ esc l := by simp [esc]
    rw [h, un_append, un_escB]
    simp only [Option.bind_some]
    rw [ih]
    simp
theorem un_len (a : List UInt8) (e e' : Bool) (b b' : List UInt8) (h : un a (e, b) = some (e', b')) : b'.length ≤ b.length + a.length := by
  induction a generalizing e b with
  | nil => simp [un] at h; simp [h.2]
  | cons c a ih =>
    simp only [un] at h
    have hs : ∀ st, step (e, b) c = some st → st.2.length ≤ b.length + 1 := by
      intro st
      unfold step
      repeat' split
      all_goals intro h
      all_goals first
        | (cases h; done)
        | (simp only [Option.some.injEq] at h; subst h; simp)
    cases hst : step (e, b) c with
    | none => rw [hst] at h; cases h
    | some st =>
      rw [hst] at h
      have h1 := hs st hst
      have h2 := ih st.1 st.2 h
      simp only [List.length_cons]
      omega

/-- What 'unescapeFieldValue' answers. -/
def unS (l : List UInt8) : List UInt8 := match un l (false, []) with | some (_, b) => b | none => []
def unOk (l : List UInt8) : Bool := match un l (false, []) with | some (e, _) => !e | none => false

theorem unS_esc (l : List UInt8) : unS (esc l) = l := by simp [unS, un_esc]
theorem unOk_esc (l : List UInt8) : unOk (esc l) = true := by simp [unOk, un_esc]
theorem un_back (l : List UInt8) : un (esc l ++ [92]) (false, []) = some (true, l) := by
  rw [un_snoc _ _ _ _ (un_esc l [])]; simp [step]
theorem un_comma (l : List UInt8) : un (esc l ++ [44]) (false, []) = none := by
  rw [un_snoc _ _ _ _ (un_esc l [])]; simp [step]
theorem un_eq (l : List UInt8) : un (esc l ++ [61]) (false, []) = none := by
  rw [un_snoc _ _ _ _ (un_esc l [])]; simp [step]

/-- The state that follows, a way each. -/
theorem step_open_yes (b : List UInt8) (c : UInt8) (h : sp c = true) : step (true, b) c = some (false, b ++ [c]) := by simp [step, h]
theorem step_open_no (b : List UInt8) (c : UInt8) (h : sp c = false) : step (true, b) c = none := by simp [step, h]
theorem step_back (b : List UInt8) : step (false, b) 92 = some (true, b) := by simp [step]
theorem step_bare (b : List UInt8) (c : UInt8) (h0 : c ≠ 92) (h : c = 44 ∨ c = 61) : step (false, b) c = none := by simp [step, h0, h]
theorem step_plain (b : List UInt8) (c : UInt8) (h : sp c = false) : step (false, b) c = some (false, b ++ [c]) := by
  simp only [sp, Bool.or_eq_false_iff, beq_eq_false_iff_ne] at h
  simp [step, h.1.1, h.1.2, h.2]
end Go.Proofs.Qxb6001175a
