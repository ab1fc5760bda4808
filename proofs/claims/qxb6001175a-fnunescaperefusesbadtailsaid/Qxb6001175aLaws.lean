/-
  What the two laws ask of the callees: the bounds (9, 14) and 'ZZunescapeFieldValue' (10) at an escaped text and at one with a bad tail.
-/
import Derived.Test.Qxb6001175aUnescape
namespace Go.Proofs.Qxb6001175a
open Go.ChangeShapes Go.WideShapes Go.ChangeAt Go.RowKit

theorem ba_of (s : ByteArray) : (⟨s.data.toList.toArray⟩ : ByteArray) = s := by simp
/-- the escaped text. -/
def escS (s : ByteArray) : ByteArray := ⟨(esc s.data.toList).toArray⟩
theorem escS_list (s : ByteArray) : (escS s).data.toList = esc s.data.toList := by simp [escS]
theorem escS_size (s : ByteArray) : (escS s).size ≤ 2 * s.size := by
  have h := esc_len s.data.toList
  have e1 : (escS s).size = (esc s.data.toList).length := rfl
  have e2 : s.data.toList.length = s.size := Array.length_toList
  rw [e1]; omega

theorem escS_any (s : ByteArray) (w : World) (hs : s.size ≤ 1048576) :
    Calls Try.prog 11 #[.string s] w fun e w' => e = .returned (.string (escS s)) ∧ Below w.heap.size w w' := escape_any s w hs

theorem zz_esc (s : ByteArray) (w : World) (hs : s.size ≤ 1048576) :
    Calls Try.prog 10 #[.string (escS s)] w fun e w' => e = .returned (.tuple #[.string s, .bool true]) ∧ Below w.heap.size w w' := by
  refine (zz_any (escS s) w (by have := escS_size s; omega)).mono ?_
  rintro e w' ⟨rfl, hb⟩
  refine ⟨ret_sb ?_ ?_, hb⟩
  · rw [escS_list, unS_esc]
  · rw [escS_list, unOk_esc]
theorem zz_back (s v : ByteArray) (hd : v.data.toList = esc s.data.toList ++ [92]) (w : World) (hv : v.size ≤ 4194304) :
    Calls Try.prog 10 #[.string v] w fun e w' => e = .returned (.tuple #[.string s, .bool false]) ∧ Below w.heap.size w w' := by
  refine (zz_any v w hv).mono ?_
  rintro e w' ⟨rfl, hb⟩
  refine ⟨ret_sb ?_ ?_, hb⟩
  · rw [hd]; simp [unS, un_back]
  · rw [hd]; simp [unOk, un_back]
theorem zz_tail (v : ByteArray) (hd : un v.data.toList (false, []) = none) (w : World) (hv : v.size ≤ 4194304) :
    Calls Try.prog 10 #[.string v] w fun e w' => e = .returned (.tuple #[.string ⟨#[]⟩, .bool false]) ∧ Below w.heap.size w w' := by
  refine (zz_any v w hv).mono ?_
  rintro e w' ⟨rfl, hb⟩
  refine ⟨ret_sb ?_ ?_, hb⟩
  · simp [unS, hd]
  · simp [unOk, hd]

set_option maxHeartbeats 400000 in
theorem bytes9_yes (s : ByteArray) (w : World) (hs : s.size ≤ 1048576) :
    Calls Try.prog 9 #[.string s] w fun e w' => e = .returned (.bool true) ∧ w' = w := by
  have h1 : ¬ (1048576 : Int) < (s.size : Int) := by omega
  go_enter Try.func9, Try.ntmps9
  go_wp2
  go_ret
  exact ⟨rfl, rfl⟩
set_option maxHeartbeats 400000 in
theorem bytes9_no (s : ByteArray) (w : World) (hs : 1048576 < s.size) :
    Calls Try.prog 9 #[.string s] w fun e w' => e = .returned (.bool false) ∧ w' = w := by
  have h1 : (1048576 : Int) < (s.size : Int) := by omega
  go_enter Try.func9, Try.ntmps9
  go_wp2
  go_ret
  exact ⟨rfl, rfl⟩
set_option maxHeartbeats 400000 in
theorem bytes14_yes (s : ByteArray) (k : Int) (w : World) (hs : s.size ≤ 1048576) :
    Calls Try.prog 14 #[.string s, .int .u8 k] w fun e w' => e = .returned (.bool true) ∧ w' = w := by
  have h1 : ¬ (1048576 : Int) < (s.size : Int) := by omega
  go_enter Try.func14, Try.ntmps14
  go_wp2
  go_ret
  exact ⟨rfl, rfl⟩
set_option maxHeartbeats 400000 in
theorem bytes14_no (s : ByteArray) (k : Int) (w : World) (hs : 1048576 < s.size) :
    Calls Try.prog 14 #[.string s, .int .u8 k] w fun e w' => e = .returned (.bool false) ∧ w' = w := by
  have h1 : (1048576 : Int) < (s.size : Int) := by omega
  go_enter Try.func14, Try.ntmps14
  go_wp2
  go_ret
  exact ⟨rfl, rfl⟩
end Go.Proofs.Qxb6001175a
