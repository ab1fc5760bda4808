/-
  The closed facts of the row 'fnGoesOnBlockQuoteSpecRow'. Three of them read the head of the translation as a list of signs ('mayEnter', 'liftsFinal', 'make'): reckoned by the kernel off so long a string they outgrow the memory that one process is given. HERE the string's signs come by a law ('String.toList_ofList'), over whatever program; the kernel reckons on the signs alone.
-/
import Derived.Test.Qxb6001283aRows
import Derived.WalkKit
import Derived.ProofKit
namespace Go.Proofs.Qxb6001283a.fnGoesOnBlockQuoteSpec

theorem toList_of {s : String} {L : List Char} (hs : s = String.ofList L) : s.toList = L := by rw [hs, String.toList_ofList]

/-- What is asked of the head's words: the first is 'cut'; none of them lifts anything. -/
structure HeadCut (l : List Char) : Prop where
  first : (behindMainWord (wordsSigns l)).head? = some "cut".toList
  lifts : (stripLifts liftWords (behindMainWord (wordsSigns l))).1 = []
  behind : (stripLifts liftWords (behindMainWord (wordsSigns l))).2.head? = some "cut".toList

section
variable {P : Program} {l : List Char}
theorem mayEnter_of (hl : P.initOrder.toList = l) (h : HeadCut l) (h1 : P.laysLater = false) (h2 : P.bearsReflect = false) (h3 : P.doorFits [] = true) : P.mayEnter = true := by
  obtain ⟨a, b, c⟩ := h
  unfold Program.mayEnter
  rw [hl]
  cases hw : behindMainWord (wordsSigns l) with
  | nil => rw [hw] at a; cases a
  | cons x rest =>
    rw [hw] at b c
    simp only [b, c, h1, h2, h3]
    simp
theorem headLifts_of (hl : P.initOrder.toList = l) (h : HeadCut l) : P.headLifts = [] := by
  unfold Program.headLifts
  rw [hl]
  simp only [h.lifts, h.behind]
  simp
theorem liftsFinal_of (hl : P.initOrder.toList = l) (h : HeadCut l) : P.liftsFinal = false := by
  have hh := headLifts_of hl h
  unfold Program.liftsFinal
  rw [hl, hh]
  simp only [h.first]
  simp
theorem make_of (hl : P.initOrder.toList = l) (h : HeadCut l) : P.make = some .cut := by
  have a := h.first
  unfold Program.make
  rw [hl]
  cases hw : behindMainWord (wordsSigns l) with
  | nil => rw [hw] at a; cases a
  | cons x rest =>
    rw [hw] at a
    have hx : x = "cut".toList := Option.some.inj a
    subst hx
    simp
end

set_option maxRecDepth 100000 in
theorem head_signs : ∃ l, Try.pinned.checked.prog.initOrder.toList = l ∧ HeadCut l := ⟨_, toList_of rfl, by kernel_rfl, by kernel_rfl, by kernel_rfl⟩

theorem mayEnter_is : Try.pinned.checked.prog.mayEnter = true := by
  obtain ⟨l, hl, h⟩ := head_signs
  exact mayEnter_of hl h (by kernel_rfl) (by kernel_rfl) (by kernel_rfl)
theorem liftsFinal_is : Try.pinned.checked.prog.liftsFinal = false := by
  obtain ⟨l, hl, h⟩ := head_signs
  exact liftsFinal_of hl h
theorem make_is : Try.pinned.checked.prog.make = some .cut := by
  obtain ⟨l, hl, h⟩ := head_signs
  exact make_of hl h

theorem lifted_fits : (Rows.fnGoesOnBlockQuoteSpecRow.lifted == Try.pinned.checked.prog.liftsFinal) = true := by rw [liftsFinal_is]; rfl
theorem make_fits : (Try.pinned.checked.prog.make == some Rows.fnGoesOnBlockQuoteSpecRow.make) = true := by rw [make_is]; rfl

theorem closed : joinedFacts Try.pinned.checked.prog 10 Try.f10 Rows.fnGoesOnBlockQuoteSpecSpec Rows.fnGoesOnBlockQuoteSpecRow = true := by
  unfold joinedFacts
  simp only [Bool.and_eq_true]
  repeat' (refine And.intro ?_ ?_)
  all_goals first
    | (with_reducible exact mayEnter_is)
    | (with_reducible exact lifted_fits)
    | (with_reducible exact make_fits)
    | kernel_rfl
end Go.Proofs.Qxb6001283a.fnGoesOnBlockQuoteSpec
