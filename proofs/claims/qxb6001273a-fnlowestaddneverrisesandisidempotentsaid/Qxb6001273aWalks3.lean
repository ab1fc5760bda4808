/-
  THE WALKS of 'keysBytes' (7) and of the bounds (6, 13): that each answers something and leaves the world alone.
-/
import Derived.Test.Qxb6001273aWalks2
namespace Go.Proofs.Qxb6001273a
open Go.ChangeShapes Go.WideShapes Go.ChangeAt Go.RowKit

set_option maxHeartbeats 800000 in
set_option maxRecDepth 100000 in
theorem keysBytes_any (S : Nat → ByteArray) (ao : Option Addr) (n cap : Nat) (w : World) (hrow : RowS w ao n S) (hn : n ≤ 65536) :
    Calls Try.prog 7 #[.slice ao n cap] w fun e w' => (∃ x : Int, e = .returned (.int .i64 x) ∧ 0 ≤ x ∧ x ≤ 4000000) ∧ w' = w := by
  go_enter Try.func7, Try.ntmps7
  go_wp2
  go_loop [3, 4] (fun m i => ∃ (k : Nat) (x : Int), k ≤ n ∧ 0 ≤ x ∧ x ≤ 1048576 ∧ i = .int .i64 k ∧ m = .int .i64 x) (fun _ i => n - (intOf i).toNat)
  case atStart => exact ⟨0, 0, Nat.zero_le _, by omega, by omega, rfl, rfl⟩
  case round =>
    obtain ⟨k, x, hk, hx0, hx1, rfl, rfl⟩ := hrel
    by_cases hlt : k < n
    · obtain ⟨b, off, rfl, hbl, hc⟩ := hrow (by omega)
      have hcx := hc k hlt
      clear hc hrow
      have i1 : (k : Int) < (n : Int) := by omega
      by_cases c1 : (1048576 : Int) < ((S k).size : Int)
      · go_wp2
        go_ret
        exact ⟨⟨_, rfl, by omega, by omega⟩, rfl⟩
      · by_cases c2 : (1048576 : Int) < x + (16 + ((S k).size : Int))
        · go_wp2
          go_ret
          exact ⟨⟨_, rfl, by omega, by omega⟩, rfl⟩
        · go_wp2
          go_round
          case rel => exact ⟨k + 1, _, by omega, by omega, by omega, by go_num, rfl⟩
          case measure => simp [intOf]; omega
    · have i1 : ¬ (k : Int) < (n : Int) := by omega
      go_wp2
      go_ret
      exact ⟨⟨x, rfl, by omega, by omega⟩, rfl⟩

/-- It answers a bool. -/
def Says (e : Ending) : Prop := ∃ x : Bool, e = .returned (.bool x)

set_option maxHeartbeats 800000 in
set_option maxRecDepth 100000 in
theorem bytes6_any (S : Nat → ByteArray) (ao : Option Addr) (n cap : Nat) (w : World) (hrow : RowS w ao n S) (hn : n ≤ 9223372036854775807) :
    Calls Try.prog 6 #[.slice ao n cap] w fun e w' => Says e ∧ w' = w := by
  by_cases hs : (1048576 : Int) < (n : Int)
  · go_enter Try.func6, Try.ntmps6
    go_wp2
    go_ret
    exact ⟨⟨_, rfl⟩, rfl⟩
  · go_enter Try.func6, Try.ntmps6
    go_wp2
    go_loop [3, 4] (fun m i => ∃ (k : Nat) (x : Int), k ≤ n ∧ 0 ≤ x ∧ x ≤ 1048576 ∧ i = .int .i64 k ∧ m = .int .i64 x) (fun _ i => n - (intOf i).toNat)
    case atStart => exact ⟨0, _, Nat.zero_le _, by omega, by omega, rfl, rfl⟩
    case round =>
      obtain ⟨k, x, hk, hx0, hx1, rfl, rfl⟩ := hrel
      by_cases hlt : k < n
      · obtain ⟨b, off, rfl, hbl, hc⟩ := hrow (by omega)
        have hcx := hc k hlt
        clear hc hrow
        have i1 : (k : Int) < (n : Int) := by omega
        by_cases c1 : (1048576 : Int) < ((S k).size : Int)
        · go_wp2
          go_ret
          exact ⟨⟨_, rfl⟩, rfl⟩
        · by_cases c2 : (1048576 : Int) < x + ((S k).size : Int)
          · go_wp2
            go_ret
            exact ⟨⟨_, rfl⟩, rfl⟩
          · go_wp2
            go_round
            case rel => exact ⟨k + 1, _, by omega, by omega, by omega, by go_num, rfl⟩
            case measure => simp [intOf]; omega
      · have i1 : ¬ (k : Int) < (n : Int) := by omega
        go_wp2
        go_ret
        exact ⟨⟨_, rfl⟩, rfl⟩

set_option maxHeartbeats 800000 in
set_option maxRecDepth 100000 in
theorem bytes13_any (st : ByteArray) (hb : Bool) (S : Nat → ByteArray) (ao : Option Addr) (n cap : Nat) (w : World) (hrow : RowS w ao n S) (hst : st.size ≤ 9223372036854775807) (hn : n ≤ 9223372036854775807) :
    Calls Try.prog 13 #[.string st, .bool hb, .slice ao n cap] w fun e w' => Says e ∧ w' = w := by
  by_cases h0 : (1048576 : Int) < (st.size : Int)
  · go_enter Try.func13, Try.ntmps13
    go_wp2
    go_ret
    exact ⟨⟨_, rfl⟩, rfl⟩
  by_cases h1 : (1048576 : Int) < (n : Int)
  · go_enter Try.func13, Try.ntmps13
    go_wp2
    go_ret
    exact ⟨⟨_, rfl⟩, rfl⟩
  by_cases h2 : (1048576 : Int) < (st.size : Int) + (n : Int)
  · go_enter Try.func13, Try.ntmps13
    go_wp2
    go_ret
    exact ⟨⟨_, rfl⟩, rfl⟩
  · go_enter Try.func13, Try.ntmps13
    go_wp2
    go_loop [7, 8] (fun m i => ∃ (k : Nat) (x : Int), k ≤ n ∧ 0 ≤ x ∧ x ≤ 1048576 ∧ i = .int .i64 k ∧ m = .int .i64 x) (fun _ i => n - (intOf i).toNat)
    case atStart => exact ⟨0, _, Nat.zero_le _, by omega, by omega, rfl, rfl⟩
    case round =>
      obtain ⟨k, x, hk, hx0, hx1, rfl, rfl⟩ := hrel
      by_cases hlt : k < n
      · obtain ⟨b, off, rfl, hbl, hc⟩ := hrow (by omega)
        have hcx := hc k hlt
        clear hc hrow
        have i1 : (k : Int) < (n : Int) := by omega
        by_cases c1 : (1048576 : Int) < ((S k).size : Int)
        · go_wp2
          go_ret
          exact ⟨⟨_, rfl⟩, rfl⟩
        · by_cases c2 : (1048576 : Int) < x + ((S k).size : Int)
          · go_wp2
            go_ret
            exact ⟨⟨_, rfl⟩, rfl⟩
          · go_wp2
            go_round
            case rel => exact ⟨k + 1, _, by omega, by omega, by omega, by go_num, rfl⟩
            case measure => simp [intOf]; omega
      · have i1 : ¬ (k : Int) < (n : Int) := by omega
        go_wp2
        go_ret
        exact ⟨⟨_, rfl⟩, rfl⟩
end Go.Proofs.Qxb6001273a
