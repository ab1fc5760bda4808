/-
  THE WALKS of the callees of 'FnAllDigitsByteModel': the bound 'zzBytes_..' (12), 'allDigits' (17), 'ZZallDigits' (13).
-/
import Derived.Test.Qxb6001132aRows
import Derived.WalkKit
import Derived.ProofKit
import Derived.OpenShut
import Derived.ShutString
namespace Go.Proofs.Qxb6001132a
open Go.ChangeShapes Go.WideShapes Go.ChangeAt Go.RowKit

/-! ### the plain functions -/
def dig (c : UInt8) : Bool := decide (48 ≤ (c.toNat : Int) ∧ (c.toNat : Int) ≤ 57)
def digTo (s : ByteArray) (k : Nat) : Bool := (s.data.toList.take k).all dig

theorem digTo_zero (s : ByteArray) : digTo s 0 = true := by simp [digTo]
theorem digTo_succ (s : ByteArray) (k : Nat) (h : k < s.size) : digTo s (k + 1) = (digTo s k && dig s[k]) := by
  unfold digTo
  rw [List.take_succ_eq_append_getElem (by simpa using h)]
  rw [List.all_append]
  simp
  rfl
/-- one byte that is no digit spoils the whole. -/
theorem digTo_false (s : ByteArray) (k : Nat) (h : k < s.size) (hd : dig s[k] = false) : digTo s s.size = false := by
  have h1 : ∀ n, k + 1 + n ≤ s.size → digTo s (k + 1 + n) = false := by
    intro n
    induction n with
    | zero => intro _; rw [Nat.add_zero, digTo_succ s k h, hd, Bool.and_false]
    | succ n ih => intro hn; rw [← Nat.add_assoc, digTo_succ s (k + 1 + n) (by omega), ih (by omega), Bool.false_and]
  have h2 := h1 (s.size - (k + 1)) (by omega)
  rwa [show k + 1 + (s.size - (k + 1)) = s.size from by omega] at h2

theorem ret_bool {a b : Bool} (h : a = b) : Ending.returned (.bool a) = .returned (.bool b) := by rw [h]
theorem dig_lo {c : UInt8} (h : (c.toNat : Int) < 48) : dig c = false := by
  unfold dig; simp; omega
theorem dig_hi {c : UInt8} (h : 57 < (c.toNat : Int)) : dig c = false := by
  unfold dig; simp; omega
theorem dig_yes {c : UInt8} (h1 : ¬ (c.toNat : Int) < 48) (h2 : ¬ 57 < (c.toNat : Int)) : dig c = true := by
  unfold dig; simp; omega

/-! ### the walks -/
set_option maxHeartbeats 400000 in
theorem bytes_any (s : ByteArray) (w : World) (hs : s.size ≤ 1048576) :
    Calls Try.prog 12 #[.string s] w fun e w' => e = .returned (.bool true) ∧ w' = w := by
  have h1 : ¬ (1048576 : Int) < (s.size : Int) := by omega
  go_enter Try.func12, Try.ntmps12
  go_wp2
  go_ret
  exact ⟨rfl, rfl⟩

set_option maxHeartbeats 400000 in
theorem bytes_no (s : ByteArray) (w : World) (hs : 1048576 < s.size) :
    Calls Try.prog 12 #[.string s] w fun e w' => e = .returned (.bool false) ∧ w' = w := by
  have h1 : (1048576 : Int) < (s.size : Int) := by omega
  go_enter Try.func12, Try.ntmps12
  go_wp2
  go_ret
  exact ⟨rfl, rfl⟩

theorem below_iter (w : World) (s : ByteArray) (k : Nat) : Below w.heap.size w (w.iter s k) := (Below.refl _ _).alloc (Nat.le_refl _) _

set_option maxHeartbeats 400000 in
set_option maxRecDepth 100000 in
theorem digits_any (s : ByteArray) (w : World) :
    Calls Try.prog 17 #[.string s] w fun e w' => e = .returned (.bool (digTo s s.size)) ∧ Below w.heap.size w w' := by
  go_enter Try.func17, Try.ntmps17
  go_wp2
  go_loopw [4] (fun _ w' => ∃ k : Nat, k ≤ s.size ∧ w' = w.iter s k ∧ Hid (digTo s k = true)) (fun _ w' => s.size - w'.iterPos w.heap.size)
  case atStart => exact ⟨0, Nat.zero_le _, rfl, digTo_zero s⟩
  case round =>
    obtain ⟨k, hk, rfl, hd⟩ := hrel
    by_cases hp : k < s.size
    · by_cases ha : (s[k]'hp).toNat < 128
      · have hnx : ∀ ty, (Instr.next (.pointer (some ⟨w.heap.size, 0, none⟩)) true ty).run Try.prog (w.iter s k) = _ := fun ty => run_next_ascii w s k ty hp ha
        by_cases h1 : ((s[k]'hp).toNat : Int) < 48
        · go_wp2
          go_ret
          exact ⟨ret_bool (digTo_false s k hp (dig_lo h1)).symm, below_iter _ _ _⟩
        · by_cases h2 : 57 < ((s[k]'hp).toNat : Int)
          · go_wp2
            go_ret
            exact ⟨ret_bool (digTo_false s k hp (dig_hi h2)).symm, below_iter _ _ _⟩
          · go_wp2
            go_roundw
            case rel => exact ⟨k + 1, by omega, rfl, show digTo s (k + 1) = true by rw [digTo_succ s k hp, hd.out, dig_yes h1 h2]; rfl⟩
            case measure => simp; omega
      · have hh := (decode_high s k hp (by omega)).1
        have hnx : ∀ ty, (Instr.next (.pointer (some ⟨w.heap.size, 0, none⟩)) true ty).run Try.prog (w.iter s k) = _ := fun ty => run_next_any w s k ty hp
        have h1 : ¬ ((Utf8.decode s k).1 : Int) < 48 := by omega
        have h2 : 57 < ((Utf8.decode s k).1 : Int) := by omega
        go_wp2
        go_ret
        exact ⟨ret_bool (digTo_false s k hp (dig_hi (by omega))).symm, below_iter _ _ _⟩
    · have hnx : ∀ ty, (Instr.next (.pointer (some ⟨w.heap.size, 0, none⟩)) true ty).run Try.prog (w.iter s k) = _ := fun ty => run_next_end w s k ty hp
      go_wp2
      go_ret
      exact ⟨ret_bool (by have e : k = s.size := by omega
                          rw [← e, hd.out]), below_iter _ _ _⟩

set_option maxHeartbeats 400000 in
theorem zz_any (s : ByteArray) (w : World) :
    Calls Try.prog 13 #[.string s] w fun e w' => e = .returned (.bool (digTo s s.size)) ∧ Below w.heap.size w w' := by
  go_enter Try.func13, Try.ntmps13
  go_wp2_with (go_at_call 17; refine (digits_any _ _).mono ?_; rintro e w' ⟨rfl, hb⟩)
  go_ret
  exact ⟨rfl, hb⟩
end Go.Proofs.Qxb6001132a
