/-
  PLAIN LAWS of the lowest key: byte strings and their order alone, no walk in sight.
-/
import GoSem.Op.String
import Derived.WideShapes
namespace Go.Proofs.Qxb6001273a

/-! ### the order of byte lists -/
theorem less_irrefl : ∀ a : List UInt8, Op.bytesLess a a = false
  | [] => rfl
  | c :: a => by
    simp only [Op.bytesLess, less_irrefl a]
    simp [UInt8.lt_irrefl]
theorem less_trans : ∀ a b c : List UInt8, Op.bytesLess a b = true → Op.bytesLess b c = true → Op.bytesLess a c = true
  | _, _, [], _, h2 => by simp [Op.bytesLess] at h2
  | _, [], _ :: _, h1, _ => by simp [Op.bytesLess] at h1
  | [], _ :: _, _ :: _, _, _ => by simp [Op.bytesLess]
  | x :: a, y :: b, z :: c, h1, h2 => by
    simp only [Op.bytesLess, Bool.or_eq_true, Bool.and_eq_true, decide_eq_true_eq, beq_iff_eq] at h1 h2 ⊢
    rcases h1 with h1 | ⟨rfl, h1⟩
    · rcases h2 with h2 | ⟨rfl, h2⟩
      · exact .inl (UInt8.lt_trans h1 h2)
      · exact .inl h1
    · rcases h2 with h2 | ⟨rfl, h2⟩
      · exact .inl h2
      · exact .inr ⟨rfl, less_trans a b c h1 h2⟩

/-- one place at which the two differ decides. -/
theorem less_diff (A B : List UInt8) (i : Nat) (h1 : i < A.length) (h2 : i < B.length) (hne : A[i] ≠ B[i]) : Op.bytesLess (A.drop i) (B.drop i) = decide (A[i] < B[i]) := by
  rw [List.drop_eq_getElem_cons h1, List.drop_eq_getElem_cons h2]
  simp [Op.bytesLess, hne]
theorem less_same (A B : List UInt8) (i : Nat) (h1 : i < A.length) (h2 : i < B.length) (he : A[i] = B[i]) : Op.bytesLess (A.drop i) (B.drop i) = Op.bytesLess (A.drop (i + 1)) (B.drop (i + 1)) := by
  rw [List.drop_eq_getElem_cons h1, List.drop_eq_getElem_cons h2]
  simp [Op.bytesLess, he, UInt8.lt_irrefl]
theorem less_end (A B : List UInt8) (i : Nat) (h1 : i ≤ A.length) (h2 : i ≤ B.length) (h : ¬ (i < A.length ∧ i < B.length)) : Op.bytesLess (A.drop i) (B.drop i) = decide (A.length < B.length) := by
  by_cases hb : i < B.length
  · have ha : i = A.length := by omega
    subst ha
    rw [List.drop_eq_getElem_cons hb, List.drop_eq_nil_of_le (Nat.le_refl _), decide_eq_true hb]
    rfl
  · have he : i = B.length := by omega
    subst he
    have : ¬ A.length < B.length := by omega
    simp [Op.bytesLess, this]

/-! ### byte strings -/
def lt (a b : ByteArray) : Bool := Op.bytesLess a.toList b.toList
theorem lt_irrefl (a : ByteArray) : lt a a = false := less_irrefl _
theorem lt_trans {a b c : ByteArray} (h1 : lt a b = true) (h2 : lt b c = true) : lt a c = true := less_trans _ _ _ h1 h2
theorem lt_asymm {a b : ByteArray} (h1 : lt a b = true) : lt b a = false := by
  cases h : lt b a with
  | false => rfl
  | true => have := lt_trans h1 h; rw [lt_irrefl] at this; cases this

/-! ### adding a key -/
def addK (key : ByteArray) (has : Bool) (k : ByteArray) : ByteArray := if has = true ∧ lt k key = false then key else k
theorem addK_keep {key k : ByteArray} (h : lt k key = false) : addK key true k = key := by simp [addK, h]
theorem addK_take {key k : ByteArray} (h : lt k key = true) : addK key true k = k := by simp [addK, h]
theorem addK_first (key k : ByteArray) : addK key false k = k := by simp [addK]
/-- the new key is the old one or the added one. -/
theorem addK_or (key k : ByteArray) (has : Bool) : addK key has k = k ∨ (has = true ∧ addK key has k = key) := by
  unfold addK
  split
  · rename_i h; exact .inr ⟨h.1, rfl⟩
  · exact .inl rfl
theorem addK_low (key k : ByteArray) (has : Bool) : lt k (addK key has k) = false := by
  unfold addK
  split
  · rename_i h; exact h.2
  · exact lt_irrefl k
/-- it never rises. -/
theorem addK_down (key k : ByteArray) : lt key (addK key true k) = false := by
  cases h : lt k key with
  | false => rw [addK_keep h]; exact lt_irrefl _
  | true => rw [addK_take h]; exact lt_asymm h
/-- what was not below the old key is not below the new one. -/
theorem addK_mono {key k x : ByteArray} (h : lt x key = false) : lt x (addK key true k) = false := by
  cases hk : lt k key with
  | false => rw [addK_keep hk]; exact h
  | true =>
    rw [addK_take hk]
    cases hx : lt x k with
    | false => rfl
    | true => have := lt_trans hx hk; rw [h] at this; cases this
theorem addK_again (key k : ByteArray) (has : Bool) : addK (addK key has k) true k = addK key has k := addK_keep (addK_low key k has)

/-! ### adding many -/
def fold (S : Nat → ByteArray) (st : ByteArray × Bool) : Nat → ByteArray × Bool
  | 0 => st
  | i + 1 => (addK (fold S st i).1 (fold S st i).2 (S i), true)
theorem fold_zero (S : Nat → ByteArray) (st : ByteArray × Bool) : fold S st 0 = st := rfl
theorem fold_key (S : Nat → ByteArray) (st : ByteArray × Bool) (i : Nat) : (fold S st (i + 1)).1 = addK (fold S st i).1 (fold S st i).2 (S i) := rfl
theorem fold_has (S : Nat → ByteArray) (st : ByteArray × Bool) (i : Nat) : (fold S st (i + 1)).2 = true := rfl
theorem fold_has' (S : Nat → ByteArray) (st : ByteArray × Bool) (i : Nat) (h : 0 < i) : (fold S st i).2 = true := by
  cases i with
  | zero => omega
  | succ i => rfl
theorem fold_low (S : Nat → ByteArray) (st : ByteArray × Bool) : ∀ i j, j < i → lt (S j) (fold S st i).1 = false
  | 0, _, h => by omega
  | i + 1, j, h => by
    rw [fold_key]
    by_cases hj : j = i
    · subst hj; exact addK_low _ _ _
    · have hi := fold_low S st i j (by omega)
      have hh := fold_has' S st i (by omega)
      rw [hh]
      exact addK_mono hi
theorem fold_mem (S : Nat → ByteArray) (k : ByteArray) : ∀ i, 0 < i → ∃ j, j < i ∧ S j = (fold S (k, false) i).1
  | 0, h => by omega
  | i + 1, _ => by
    rw [fold_key]
    rcases addK_or (fold S (k, false) i).1 (S i) (fold S (k, false) i).2 with h | ⟨h1, h2⟩
    · exact ⟨i, by omega, h.symm⟩
    · cases i with
      | zero => simp [fold] at h1
      | succ i =>
        obtain ⟨j, hj, he⟩ := fold_mem S k (i + 1) (by omega)
        exact ⟨j, by omega, by rw [h2]; exact he⟩
/-- replaying the whole script changes nothing. -/
theorem fold_still (S : Nat → ByteArray) (st : ByteArray × Bool) : ∀ i, (∀ j, j < i → st.2 = true ∧ lt (S j) st.1 = false) → fold S st i = st
  | 0, _ => rfl
  | i + 1, h => by
    have ih := fold_still S st i (fun j hj => h j (by omega))
    obtain ⟨h1, h2⟩ := h i (by omega)
    unfold fold
    rw [ih, h1, addK_keep h2]
    exact Prod.ext rfl h1.symm
theorem fold_replay (S : Nat → ByteArray) (st : ByteArray × Bool) (n : Nat) : fold S (fold S st n) n = fold S st n :=
  fold_still S _ n (fun j hj => ⟨fold_has' S st n (by omega), fold_low S st n j hj⟩)
end Go.Proofs.Qxb6001273a
