/-
  THE WALKS of 'lessBytes' (10), 'ZZLowestAdd' (14) with '(*lowest).add' (15) inside it, 'foldLowest' (9).
-/
import Derived.Test.Qxb6001273aRows
import Derived.Test.Qxb6001273aPlain
import Derived.WalkKit
import Derived.ProofKit
import Derived.OpenShut
import Derived.ShutString
import Derived.WalkLawsBesides
import Derived.WalkSpells
import Derived.BigQuiet
import Derived.Deep.QuietTactic
namespace Go.Proofs.Qxb6001273a
open Go.ChangeShapes Go.WideShapes Go.ChangeAt Go.RowKit

theorem ret_bool {a b : Bool} (h : a = b) : Ending.returned (.bool a) = .returned (.bool b) := by rw [h]
theorem ret_sb {a b : ByteArray} {x y : Bool} (h : a = b) (h2 : x = y) : Ending.returned (.tuple #[.string a, .bool x]) = .returned (.tuple #[.string b, .bool y]) := by rw [h, h2]

theorem byte_of {c d : UInt8} (h : ((c.toNat : Int) == (d.toNat : Int)) = true) : c = d := by
  rw [beq_iff_eq] at h
  exact UInt8.toNat_inj.1 (by omega)
theorem byte_ne {c d : UInt8} (h : ((c.toNat : Int) == (d.toNat : Int)) = false) : c ≠ d := by
  rw [beq_eq_false_iff_ne] at h
  intro e; subst e; exact h rfl

/-- Of what is left from place k on, the order is that of the whole. -/
def Left (a b : ByteArray) (k : Nat) : Prop := Op.bytesLess (a.data.toList.drop k) (b.data.toList.drop k) = lt a b
theorem left_zero (a b : ByteArray) : Left a b 0 := by simp [Left, lt, ByteArray.toList_eq]
theorem Left.next {a b : ByteArray} {k : Nat} (h : Left a b k) (h1 : k < a.size) (h2 : k < b.size) (he : a[k] = b[k]) : Left a b (k + 1) := by
  unfold Left at h ⊢
  rw [← h]
  exact (less_same _ _ k (by simpa using h1) (by simpa using h2) he).symm
theorem Left.diff {a b : ByteArray} {k : Nat} (h : Left a b k) (h1 : k < a.size) (h2 : k < b.size) (hne : a[k] ≠ b[k]) : decide (a[k].toNat < b[k].toNat) = lt a b := by
  unfold Left at h
  rw [← h, less_diff _ _ k (by simpa using h1) (by simpa using h2) hne]
  show _ = decide (a[k] < b[k])
  rw [decide_eq_decide, UInt8.lt_iff_toNat_lt]
theorem Left.stop {a b : ByteArray} {k : Nat} (h : Left a b k) (h1 : k ≤ a.size) (h2 : k ≤ b.size) (hn : ¬ (k < a.size ∧ k < b.size)) : decide (a.size < b.size) = lt a b := by
  unfold Left at h
  have e1 : a.data.toList.length = a.size := Array.length_toList
  have e2 : b.data.toList.length = b.size := Array.length_toList
  rw [← h, less_end _ _ k (by omega) (by omega) (by omega), e1, e2]

set_option maxHeartbeats 800000 in
set_option maxRecDepth 100000 in
theorem less_any (a b : ByteArray) (w : World) (ha : a.size ≤ maxLen) (_hb : b.size ≤ maxLen) :
    Calls Try.prog 10 #[.string a, .string b] w fun e w' => e = .returned (.bool (lt a b)) ∧ Below w.heap.size w w' := by
  unfold maxLen at ha
  go_enter Try.func10, Try.ntmps10
  go_wp2
  go_loopw [5] (fun i wr => ∃ k : Nat, k ≤ a.size ∧ k ≤ b.size ∧ i = .int .i64 k ∧ Left a b k ∧ Below w.heap.size w wr) (fun i _ => a.size - (intOf i).toNat)
  case atStart => exact ⟨0, Nat.zero_le _, Nat.zero_le _, rfl, left_zero a b, Below.refl _ _⟩
  case round =>
    obtain ⟨k, hk1, hk2, rfl, hl, hbw⟩ := hrel
    by_cases h1 : k < a.size
    · by_cases h2 : k < b.size
      · have i1 : (k : Int) < (a.size : Int) := by omega
        have i2 : (k : Int) < (b.size : Int) := by omega
        by_cases he : ((a[k].toNat : Int) == (b[k].toNat : Int)) = true
        · have hne : ((a[k].toNat : Int) != (b[k].toNat : Int)) = false := by simpa [bne] using he
          have NX := hl.next h1 h2 (byte_of he)
          go_wp2
          go_quiet (fail)
          go_wp2
          go_roundw
          case rel => exact ⟨k + 1, by omega, by omega, by go_num, NX, below_drewN hbw _⟩
          case measure => simp [intOf]; omega
        · have he' : ((a[k].toNat : Int) == (b[k].toNat : Int)) = false := by simpa using he
          have hne : ((a[k].toNat : Int) != (b[k].toNat : Int)) = true := by simpa [bne] using he
          have D : Hid (decide (a[k].toNat < b[k].toNat) = lt a b) := hl.diff h1 h2 (byte_ne he')
          clear he
          go_wp2
          go_quiet (fail)
          go_wp2
          go_quiet (fail)
          go_wp2
          go_ret
          exact ⟨ret_bool D.out, below_drewN (below_drewN hbw _) _⟩
      · have i2 : ¬ (k : Int) < (b.size : Int) := by omega
        have D : Hid (decide (a.size < b.size) = lt a b) := hl.stop hk1 hk2 (by omega)
        go_wp2
        go_ret
        exact ⟨ret_bool D.out, hbw⟩
    · have i1 : ¬ (k : Int) < (a.size : Int) := by omega
      have D : Hid (decide (a.size < b.size) = lt a b) := hl.stop hk1 hk2 (by omega)
      go_wp2
      go_ret
      exact ⟨ret_bool D.out, hbw⟩

theorem below_box (w : World) (o : Obj) : Below w.heap.size w (w.alloc o) := (Below.refl _ _).alloc (Nat.le_refl _) _
set_option maxHeartbeats 800000 in
set_option maxRecDepth 100000 in
theorem add_first (key k : ByteArray) (w : World) :
    Calls Try.prog 14 #[.string key, .bool false, .string k] w fun e w' => e = .returned (.tuple #[.string (addK key false k), .bool true]) ∧ Below w.heap.size w w' := by
  go_enter Try.func14, Try.ntmps14
  go_wp2
  go_end0
  go_wp2
  go_quiet (fail)
  go_wp2
  go_ret2
  exact ⟨ret_sb (addK_first key k).symm rfl, below_drewN (below_box _ _) _⟩
set_option maxHeartbeats 800000 in
set_option maxRecDepth 100000 in
theorem add_take (key k : ByteArray) (w : World) (h : lt k key = true) :
    Calls Try.prog 14 #[.string key, .bool true, .string k] w fun e w' => e = .returned (.tuple #[.string (addK key true k), .bool true]) ∧ Below w.heap.size w w' := by
  have hl : Op.bytesLess k.toList key.toList = true := h
  have D : Hid (lt k key = true) := h
  clear h
  go_enter Try.func14, Try.ntmps14
  go_wp2
  go_end0
  go_wp2
  go_quiet (fail)
  go_wp2
  go_ret2
  exact ⟨ret_sb (addK_take D.out).symm rfl, below_drewN (below_box _ _) _⟩
set_option maxHeartbeats 800000 in
set_option maxRecDepth 100000 in
theorem add_keep (key k : ByteArray) (w : World) (h : lt k key = false) :
    Calls Try.prog 14 #[.string key, .bool true, .string k] w fun e w' => e = .returned (.tuple #[.string (addK key true k), .bool true]) ∧ Below w.heap.size w w' := by
  have hl : Op.bytesLess k.toList key.toList = false := h
  have D : Hid (lt k key = false) := h
  clear h
  go_enter Try.func14, Try.ntmps14
  go_wp2
  go_end0
  go_wp2
  go_quiet (fail)
  go_wp2
  go_ret2
  exact ⟨ret_sb (addK_keep D.out).symm rfl, below_drewN (below_box _ _) _⟩
/-- 'ZZLowestAdd': the lowest behind one more key. -/
theorem add_any (key : ByteArray) (has : Bool) (k : ByteArray) (w : World) :
    Calls Try.prog 14 #[.string key, .bool has, .string k] w fun e w' => e = .returned (.tuple #[.string (addK key has k), .bool true]) ∧ Below w.heap.size w w' := by
  cases has with
  | false => exact add_first key k w
  | true =>
    cases h : lt k key with
    | false => exact add_keep key k w h
    | true => exact add_take key k w h
end Go.Proofs.Qxb6001273a
