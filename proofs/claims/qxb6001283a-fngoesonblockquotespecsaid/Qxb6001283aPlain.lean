/-
  PLAIN LAWS of the block quote's marker: spaces and tabs, columns; no Go in sight.
-/
namespace Go.Proofs.Qxb6001283a

def ws (z : Int) : Bool := z == 32 || z == 9
/-- The column behind one space or tab. -/
def adv (c z : Int) : Int := if (z == 32) = true then c + 1 else c + (4 - c % 4)
/-- The first place from i on that is no space or tab, and its column. -/
def scan (Z : Nat → Int) (len : Nat) : Nat → Nat → Int → Nat × Int
  | 0, i, c => (i, c)
  | f + 1, i, c => if i < len ∧ ws (Z i) = true then scan Z len f (i + 1) (adv c (Z i)) else (i, c)

/-- From place i, column c, the scan ends at place E, column C. -/
def At (Z : Nat → Int) (len i : Nat) (c : Int) (E : Nat) (C : Int) : Prop := scan Z len (len - i) i c = (E, C)

theorem at_ex (Z : Nat → Int) (len i : Nat) (c : Int) : ∃ E C, At Z len i c E C := ⟨_, _, rfl⟩
theorem At.step {Z : Nat → Int} {len i E : Nat} {c C : Int} (h : At Z len i c E C) (h1 : i < len) (h2 : ws (Z i) = true) : At Z len (i + 1) (adv c (Z i)) E C := by
  unfold At at h ⊢
  obtain ⟨f, hf⟩ : ∃ f, len - i = f + 1 := ⟨len - i - 1, by omega⟩
  rw [hf] at h
  rw [show len - (i + 1) = f from by omega]
  simpa [scan, h1, h2] using h
theorem At.stop {Z : Nat → Int} {len i E : Nat} {c C : Int} (h : At Z len i c E C) (h1 : ¬ (i < len ∧ ws (Z i) = true)) : E = i ∧ C = c := by
  unfold At at h
  cases hf : len - i with
  | zero => rw [hf] at h; simp [scan] at h; exact ⟨h.1.symm, h.2.symm⟩
  | succ f =>
    rw [hf] at h
    simp only [scan, if_neg h1, Prod.mk.injEq] at h
    exact ⟨h.1.symm, h.2.symm⟩
theorem adv_le (c z : Int) (_h : 0 ≤ c) : c + 1 ≤ adv c z ∧ adv c z ≤ c + 4 := by
  unfold adv; split <;> omega
theorem scan_bd (Z : Nat → Int) (len : Nat) : ∀ (f i : Nat) (c : Int) (E : Nat) (C : Int), scan Z len f i c = (E, C) → i ≤ len → 0 ≤ c → len - i ≤ f →
    i ≤ E ∧ E ≤ len ∧ c + ((E : Int) - i) ≤ C ∧ C ≤ c + 4 * ((E : Int) - i) ∧ ¬ (E < len ∧ ws (Z E) = true)
  | 0, i, c, E, C, h, hi, hc, hf => by
    simp [scan] at h
    obtain ⟨rfl, rfl⟩ := h
    exact ⟨Nat.le_refl _, hi, by omega, by omega, by omega⟩
  | f + 1, i, c, E, C, h, hi, hc, hf => by
    by_cases hw : i < len ∧ ws (Z i) = true
    · simp only [scan, if_pos hw] at h
      have ha := adv_le c (Z i) hc
      have := scan_bd Z len f (i + 1) _ E C h (by omega) (by omega) (by omega)
      exact ⟨by omega, by omega, by omega, by omega, this.2.2.2.2⟩
    · simp only [scan, if_neg hw, Prod.mk.injEq] at h
      obtain ⟨rfl, rfl⟩ := h
      exact ⟨Nat.le_refl _, hi, by omega, by omega, hw⟩
theorem At.bd {Z : Nat → Int} {len i E : Nat} {c C : Int} (h : At Z len i c E C) (hi : i ≤ len) (hc : 0 ≤ c) :
    i ≤ E ∧ E ≤ len ∧ c + ((E : Int) - i) ≤ C ∧ C ≤ c + 4 * ((E : Int) - i) ∧ ¬ (E < len ∧ ws (Z E) = true) :=
  scan_bd Z len _ i c E C h hi hc (Nat.le_refl _)
theorem At.ahead {Z : Nat → Int} {len i E : Nat} {c C : Int} (h : At Z len i c E C) (hlt : i < E) : i < len ∧ ws (Z i) = true := by
  by_cases hw : i < len ∧ ws (Z i) = true
  · exact hw
  · have := h.stop hw; omega

theorem adv_space {c z : Int} (h : (z == 32) = true) : adv c z = c + 1 := by simp only [adv, h, if_true]
theorem adv_tab {c z : Int} (h : (z == 32) = false) : adv c z = c + (4 - c % 4) := by simp [adv, h]
theorem ws_space {z : Int} (h : (z == 32) = true) : ws z = true := by simp only [ws, h, Bool.true_or]
theorem ws_tab {z : Int} (h : (z == 9) = true) : ws z = true := by simp only [ws, h, Bool.or_true]
theorem ws_no {z : Int} (h : (z == 32) = false) (h2 : (z == 9) = false) : ws z = false := by simp only [ws, h, h2, Bool.or_false]
theorem ws_or {z : Int} (h : ws z = true) (h2 : (z == 32) = false) : (z == 9) = true := by simpa [ws, h2] using h

/-- The byte that 'at' shows. -/
def atv (Z : Nat → Int) (len : Nat) (nb : Bool) (i : Nat) : Int := if i < len then Z i else if nb = true then 255 else 0
theorem atv_in {Z : Nat → Int} {len i : Nat} {nb : Bool} (h : i < len) : atv Z len nb i = Z i := by simp [atv, h]
theorem atv_out {Z : Nat → Int} {len i : Nat} {nb : Bool} (h : ¬ i < len) : atv Z len nb i = if nb = true then 255 else 0 := by simp [atv, h]

/-! ### advancing by columns -/
/-- One round: place, column, what is left to go. -/
def stepA (Z : Nat → Int) (k : Nat) (c n : Int) : Nat × Int × Int :=
  if (Z k == 9) = true then (if n < 4 - c % 4 then (k, c + n, 0) else (k + 1, c + (4 - c % 4), n - (4 - c % 4))) else (k + 1, c + 1, n - 1)
def advF (Z : Nat → Int) (len : Nat) : Nat → Nat → Int → Int → Nat × Int
  | 0, k, c, _ => (k, c)
  | f + 1, k, c, n => if 0 < n ∧ k < len then advF Z len f (stepA Z k c n).1 (stepA Z k c n).2.1 (stepA Z k c n).2.2 else (k, c)
/-- From place k, column c, n columns on: one comes to place K, column C. -/
def To (Z : Nat → Int) (len k : Nat) (c n : Int) (K : Nat) (C : Int) : Prop := ∃ f : Nat, n ≤ f ∧ advF Z len f k c n = (K, C)
theorem To.stop {Z : Nat → Int} {len k K : Nat} {c n C : Int} (h : To Z len k c n K C) (hn : ¬ (0 < n ∧ k < len)) : K = k ∧ C = c := by
  obtain ⟨f, _, h⟩ := h
  cases f with
  | zero => simp [advF] at h; exact ⟨h.1.symm, h.2.symm⟩
  | succ f => simp only [advF, if_neg hn, Prod.mk.injEq] at h; exact ⟨h.1.symm, h.2.symm⟩
theorem stepA_lower (Z : Nat → Int) (k : Nat) (c n : Int) (h : 0 < n) : (stepA Z k c n).2.2 ≤ n - 1 := by
  unfold stepA
  repeat' split
  all_goals simp only
  all_goals omega
theorem To.next {Z : Nat → Int} {len k K : Nat} {c n C : Int} (h : To Z len k c n K C) (hn : 0 < n) (hk : k < len) : To Z len (stepA Z k c n).1 (stepA Z k c n).2.1 (stepA Z k c n).2.2 K C := by
  obtain ⟨f, hf, h⟩ := h
  have hl := stepA_lower Z k c n hn
  cases f with
  | zero => omega
  | succ f =>
    simp only [advF, if_pos (And.intro hn hk)] at h
    exact ⟨f, by omega, h⟩
theorem to_ex (Z : Nat → Int) (len k : Nat) (c n : Int) : ∃ K C, To Z len k c n K C := ⟨_, _, n.toNat, by omega, rfl⟩
theorem step_plain {Z : Nat → Int} {k : Nat} {c n : Int} (h : (Z k == 9) = false) : stepA Z k c n = (k + 1, c + 1, n - 1) := by simp [stepA, h]
theorem step_part {Z : Nat → Int} {k : Nat} {c n : Int} (h : (Z k == 9) = true) (hn : n < 4 - c % 4) : stepA Z k c n = (k, c + n, 0) := by simp only [stepA, h, if_true, if_pos hn]
theorem step_whole {Z : Nat → Int} {k : Nat} {c n : Int} (h : (Z k == 9) = true) (hn : ¬ n < 4 - c % 4) : stepA Z k c n = (k + 1, c + (4 - c % 4), n - (4 - c % 4)) := by simp only [stepA, h, if_true, if_neg hn]

/-- Over the spaces and tabs and one byte more. -/
theorem to_quote {Z : Nat → Int} {len E K : Nat} {C C' : Int} (hE : E < len) (hz : (Z E == 9) = false) :
    ∀ (d k : Nat) (ck : Int), E - k = d → k ≤ E → 0 ≤ ck → At Z len k ck E C → To Z len k ck (C + 1 - ck) K C' → K = E + 1 ∧ C' = C + 1
  | 0, k, ck, hd, hk, h0, ha, ht => by
    have hke : k = E := by omega
    subst hke
    have hb := ha.bd (by omega) h0
    have hs := ha.stop hb.2.2.2.2
    have hc : C = ck := hs.2
    subst hc
    have hn := ht.next (by omega) hE
    rw [step_plain hz] at hn
    have hq := hn.stop (by simp only; omega)
    exact ⟨hq.1, hq.2⟩
  | d + 1, k, ck, hd, hk, h0, ha, ht => by
    obtain ⟨hl, hw⟩ := ha.ahead (by omega)
    have hs := ha.step hl hw
    have hle := adv_le ck (Z k) h0
    have hb := hs.bd (by omega) (by omega)
    by_cases h9 : (Z k == 9) = true
    · have h32 : (Z k == 32) = false := by
        rw [beq_iff_eq] at h9
        rw [beq_eq_false_iff_ne]; omega
      rw [adv_tab h32] at hs hb
      have hn := ht.next (by omega) hl
      rw [step_whole h9 (by omega)] at hn
      simp only at hn
      rw [show C + 1 - ck - (4 - ck % 4) = C + 1 - (ck + (4 - ck % 4)) from by omega] at hn
      exact to_quote hE hz d (k + 1) _ (by omega) (by omega) (by omega) hs hn
    · have h9' : (Z k == 9) = false := by simpa using h9
      have h32 : (Z k == 32) = true := by simpa [ws, h9'] using hw
      rw [adv_space h32] at hs hb
      have hn := ht.next (by omega) hl
      rw [step_plain h9'] at hn
      simp only at hn
      rw [show C + 1 - ck - 1 = C + 1 - (ck + 1) from by omega] at hn
      exact to_quote hE hz d (k + 1) _ (by omega) (by omega) (by omega) hs hn
theorem to_one {Z : Nat → Int} {len k K : Nat} {c C : Int} (hk : k < len) (h9 : (Z k == 9) = false) (h : To Z len k c 1 K C) : K = k + 1 ∧ C = c + 1 := by
  have hn := h.next (by omega) hk
  rw [step_plain h9] at hn
  have hq := hn.stop (by simp only; omega)
  exact ⟨hq.1, hq.2⟩
theorem to_part {Z : Nat → Int} {len k K : Nat} {c C : Int} (hk : k < len) (h9 : (Z k == 9) = true) (hc : 1 < 4 - c % 4) (h : To Z len k c 1 K C) : K = k ∧ C = c + 1 := by
  have hn := h.next (by omega) hk
  rw [step_part h9 hc] at hn
  have hq := hn.stop (by simp only; omega)
  exact ⟨hq.1, hq.2⟩
theorem to_whole {Z : Nat → Int} {len k K : Nat} {c C : Int} (hk : k < len) (h9 : (Z k == 9) = true) (hc : 4 - c % 4 = 1) (h : To Z len k c 1 K C) : K = k + 1 ∧ C = c + 1 := by
  have hn := h.next (by omega) hk
  rw [step_whole h9 (by omega), hc] at hn
  have hq := hn.stop (by simp only; omega)
  exact ⟨hq.1, hq.2⟩
end Go.Proofs.Qxb6001283a
