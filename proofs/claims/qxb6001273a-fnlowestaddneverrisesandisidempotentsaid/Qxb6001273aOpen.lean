/-
  A '[]string' that came in, opened for the walks of this seat.
-/
import Derived.Test.Qxb6001273aWalks3
import Derived.SliceStrings
import Derived.ChangeOld
import Derived.Below
namespace Go.Proofs.Qxb6001273a
open Go.ChangeShapes Go.WideShapes Go.ChangeAt Go.RowKit

theorem own : ownKnob Try.prog.godebug = none := by kernel_rfl
theorem laidOut : laidOutB Try.prog = true := by kernel_rfl

theorem lt_of_cell {w : World} {b o : Nat} {v : Value} (h : w.cell? ⟨b, o, none⟩ = some v) : b < w.heap.size := by
  rcases Nat.lt_or_ge b w.heap.size with h' | h'
  · exact h'
  · simp [World.cell?, Array.getElem?_eq_none h'] at h

/-- What the walks ask of a '[]string'. -/
def Keys (W : World) (a0 : Option Addr) (len0 cap0 : Nat) (S : Nat → ByteArray) : Prop :=
  (a0 = none → len0 = 0 ∧ cap0 = 0) ∧ RowS W a0 len0 S ∧ (∀ j, j < len0 → (S j).size ≤ maxLen) ∧ len0 ≤ 9223372036854775807

theorem keys_of {H : Type} {enc : TypeId × Value → H} {W : World} {a0 : Option Addr} {len0 cap0 fuel : Nat} {x : DataW H × List MemPlace}
    (hf : DataW.trod enc Try.prog W 0 (fun _ => true) true fuel 22 (Value.slice a0 len0 cap0).cells.toList = some x) : ∃ S, Keys W a0 len0 cap0 S := by
  rcases open_strings Try.underlying22 Try.underlying9 (by kernel_rfl) hf with ⟨hcs, _⟩ | ⟨a, l, c, ss, hcs, _, hl, hm, hz, _, hcell, hws⟩
  · simp [Value.cells] at hcs
    obtain ⟨rfl, rfl, rfl⟩ := hcs
    exact ⟨fun _ => ByteArray.empty, fun _ => ⟨rfl, rfl⟩, fun h => by omega, fun j h => by omega, by omega⟩
  · simp [Value.cells] at hcs
    obtain ⟨rfl, rfl, rfl⟩ := hcs
    have hz' : ss.length = cap0 := by simpa using hz
    refine ⟨fun i => ss.getD i ByteArray.empty, fun h => (by cases h), ?_, ?_, by unfold maxLen at hm; omega⟩
    · intro hpos
      obtain ⟨b, off, spot⟩ := a
      have hspot : spot = none := by simpa [Addr.add] using World.cell?_spot (hcell 0 (by omega))
      subst hspot
      have hc : ∀ j, j < len0 → W.cell? ⟨b, off + j, none⟩ = some (.string (ss.getD j ByteArray.empty)) := fun j hj => by
        rw [← Go.WideShapes.add_plain]; exact hcell j (by omega)
      exact ⟨b, off, rfl, lt_of_cell (hc 0 hpos), hc⟩
    · intro j hj
      have hj' : j < ss.length := by omega
      show (ss.getD j ByteArray.empty).size ≤ maxLen
      rw [List.getD_eq_getElem?_getD, List.getElem?_eq_getElem hj']
      exact hws _ (List.getElem_mem hj')
end Go.Proofs.Qxb6001273a
