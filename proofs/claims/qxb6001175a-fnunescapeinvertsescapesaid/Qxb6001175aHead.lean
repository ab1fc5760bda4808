/-
  The head of this seat's translation, by its signs. Three closed facts of every row read it ('mayEnter', 'liftsFinal', 'make'): reckoned by the kernel off so long a string they want 8 GB; here the string's signs come by a law ('String.toList_ofList'), over whatever program, and the kernel reckons on the signs alone.
-/
import Derived.Test.Qxb6001175aRows
import Derived.WalkKit
import Derived.ProofKit
namespace Go.Proofs.Qxb6001175a

theorem toList_of {s : String} {L : List Char} (hs : s = String.ofList L) : s.toList = L := by rw [hs, String.toList_ofList]

/-- What is asked of the head's words: the first is 'cut'; none of them lifts anything. -/
structure HeadCut (l : List Char) : Prop where
  first : (behindMainWord (wordsSigns l)).head? = some "cut".toList
  lifts : (stripLifts liftWords (behindMainWord (wordsSigns l))).1 = []
  behind : (stripLifts liftWords (behindMainWord (wordsSigns l))).2.head? = some "cut".toList

section
variable {P : Program} {l : List Char}
theorem mayEnter_of (hl : P.initOrder.toList = l) (h : HeadCut l) (h1 : P.laysLater = false) (h2 : P.bearsReflect = false) (h3 : P.doorFits [] = true) : P.mayEnter = true := by
  obtain ⟨a, b, c⟩ := h
  unfold Program.mayEnter
  rw [hl]
  cases hw : behindMainWord (wordsSigns l) with
  | nil => rw [hw] at a; cases a
  | cons x rest =>
    rw [hw] at b c
    simp only [b, c, h1, h2, h3]
    simp
theorem headLifts_of (hl : P.initOrder.toList = l) (h : HeadCut l) : P.headLifts = [] := by
  unfold Program.headLifts
  rw [hl]
  simp only [h.lifts, h.behind]
  simp
theorem liftsFinal_of (hl : P.initOrder.toList = l) (h : HeadCut l) : P.liftsFinal = false := by
  have hh := headLifts_of hl h
  unfold Program.liftsFinal
  rw [hl, hh]
  simp only [h.first]
  simp
theorem make_of (hl : P.initOrder.toList = l) (h : HeadCut l) : P.make = some .cut := by
  have a := h.first
  unfold Program.make
  rw [hl]
  cases hw : behindMainWord (wordsSigns l) with
  | nil => rw [hw] at a; cases a
  | cons x rest =>
    rw [hw] at a
    have hx : x = "cut".toList := Option.some.inj a
    subst hx
    simp
end

set_option maxRecDepth 100000 in
theorem head_signs : ∃ l, Try.pinned.checked.prog.initOrder.toList = l ∧ HeadCut l := ⟨_, toList_of rfl, by kernel_rfl, by kernel_rfl, by kernel_rfl⟩

theorem mayEnter_is : Try.pinned.checked.prog.mayEnter = true := by
  obtain ⟨l, hl, h⟩ := head_signs
  exact mayEnter_of hl h (by kernel_rfl) (by kernel_rfl) (by kernel_rfl)
theorem liftsFinal_is : Try.pinned.checked.prog.liftsFinal = false := by
  obtain ⟨l, hl, h⟩ := head_signs
  exact liftsFinal_of hl h
theorem make_is : Try.pinned.checked.prog.make = some .cut := by
  obtain ⟨l, hl, h⟩ := head_signs
  exact make_of hl h
end Go.Proofs.Qxb6001175a
