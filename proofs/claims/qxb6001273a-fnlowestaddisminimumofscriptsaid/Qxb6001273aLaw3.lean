/-
  THE WALK of 'FnLowestAddIsMinimumOfScript' (3).
-/
import Derived.Test.Qxb6001273aWalks3
namespace Go.Proofs.Qxb6001273a
open Go.ChangeShapes Go.WideShapes Go.ChangeAt Go.RowKit

/-- Has one of the first k strings been the key? -/
def seen (S : Nat → ByteArray) (K : ByteArray) : Nat → Bool
  | 0 => false
  | k + 1 => seen S K k || ((S k).toList == K.toList)
theorem seen_of (S : Nat → ByteArray) (K : ByteArray) : ∀ n j, j < n → S j = K → seen S K n = true
  | 0, _, h, _ => by omega
  | n + 1, j, h, e => by
    by_cases hj : j = n
    · subst hj; simp [seen, e]
    · simp [seen, seen_of S K n j (by omega) e]
theorem seen_hit {S : Nat → ByteArray} {K : ByteArray} {k : Nat} (h : ((S k).toList == K.toList) = true) : seen S K (k + 1) = true := by simp only [seen, h, Bool.or_true]
theorem seen_miss {S : Nat → ByteArray} {K : ByteArray} {k : Nat} (h : ((S k).toList == K.toList) = false) : seen S K (k + 1) = seen S K k := by simp only [seen, h, Bool.or_false]

theorem less_no (a b : ByteArray) (w : World) (ha : a.size ≤ maxLen) (hb : b.size ≤ maxLen) (h : lt a b = false) :
    Calls Try.prog 10 #[.string a, .string b] w fun e w' => e = .returned (.bool false) ∧ Below w.heap.size w w' := by
  refine (less_any a b w ha hb).mono ?_
  rintro e w' ⟨rfl, hb⟩
  exact ⟨ret_bool h, hb⟩

/-- 'foldLowest' from the empty lowest over at least one key. -/
theorem fold_min (S : Nat → ByteArray) (n : Nat) (hpos : 0 < n) (hsz : ∀ j, j < n → (S j).size ≤ maxLen) : ∃ K : ByteArray, K.size ≤ maxLen ∧ seen S K n = true ∧ (∀ j, j < n → lt (S j) K = false) ∧
    ∀ (ao : Option Addr) (cap : Nat) (w : World), RowS w ao n S → n ≤ 65536 → Calls Try.prog 9 #[.string ⟨#[]⟩, .bool false, .slice ao n cap, .int .i64 0, .int .i64 n] w fun e w' =>
      e = .returned (.tuple #[.string K, .bool true]) ∧ Below w.heap.size w w' := by
  obtain ⟨j, hj, he⟩ := fold_mem S ⟨#[]⟩ n hpos
  refine ⟨(fold S (⟨#[]⟩, false) n).1, by rw [← he]; exact hsz j hj, seen_of S _ n j hj he, fold_low S _ n, fun ao cap w hrow hn => ?_⟩
  refine (fold_any S ao n cap ⟨#[]⟩ false w hrow hn).mono ?_
  rintro e w' ⟨rfl, hb⟩
  exact ⟨ret_sb rfl (fold_has' S _ n hpos), hb⟩

set_option maxHeartbeats 1600000 in
set_option maxRecDepth 100000 in
theorem law3_none (S : Nat → ByteArray) (ao : Option Addr) (cap : Nat) (w : World) (h0 : ao = none → cap = 0) (hrow : RowS w ao 0 S) :
    Calls Try.prog 3 #[.slice ao 0 cap] w fun e w' => e = .returned (.bool true) ∧ Below w.heap.size w w' := by
  go_enter Try.func3, Try.ntmps3
  go_wp2_with fail
  refine (bytes6_any S ao 0 cap _ hrow (by omega)).mono ?_
  rintro e w1 ⟨⟨x, rfl⟩, rfl⟩
  cases x with
  | false =>
    go_wp2
    go_ret
    exact ⟨rfl, Below.refl _ _⟩
  | true =>
    go_wp2_with fail
    refine (keysBytes_any S ao 0 cap _ hrow (by omega)).mono ?_
    rintro e w2 ⟨⟨x, rfl, hx0, hx1⟩, rfl⟩
    by_cases hx : (1048576 : Int) < x
    · go_wp2
      go_ret
      exact ⟨rfl, Below.refl _ _⟩
    · go_wp2_with fail
      refine (clone_any S ao 0 cap _ (fun h => ⟨rfl, h0 h⟩) hrow (by omega)).mono ?_
      rintro e w3 ⟨ao', cap', rfl, hrow3, hb3⟩
      go_wp2_with fail
      refine (fold_any S ao' 0 cap' ⟨#[]⟩ false _ hrow3 (by omega)).mono ?_
      rintro e w4 ⟨rfl, hb4⟩
      rw [fold_zero]
      go_wp2
      go_ret
      exact ⟨rfl, hb3.trans (hb4.mono hb3.size)⟩

set_option maxHeartbeats 1600000 in
set_option maxRecDepth 100000 in
theorem law3_some (S : Nat → ByteArray) (ao : Option Addr) (n cap : Nat) (w : World) (h0 : ao = none → n = 0 ∧ cap = 0) (hrow : RowS w ao n S) (hsz : ∀ j, j < n → (S j).size ≤ maxLen) (hm : n ≤ 9223372036854775807) (hpos : 0 < n) :
    Calls Try.prog 3 #[.slice ao n cap] w fun e w' => e = .returned (.bool true) ∧ Below w.heap.size w w' := by
  obtain ⟨K, hKs, hseen, hlow, hfold⟩ := fold_min S n hpos hsz
  have HK : Hid (seen S K n = true) := hseen
  clear hseen
  go_enter Try.func3, Try.ntmps3
  go_wp2_with fail
  refine (bytes6_any S ao n cap _ hrow hm).mono ?_
  rintro e w1 ⟨⟨x, rfl⟩, rfl⟩
  cases x with
  | false =>
    go_wp2
    go_ret
    exact ⟨rfl, Below.refl _ _⟩
  | true =>
    by_cases hn : n ≤ 65536
    · have hn' : ¬ (65536 : Int) < (n : Int) := by omega
      go_wp2_with fail
      refine (keysBytes_any S ao n cap _ hrow hn).mono ?_
      rintro e w2 ⟨⟨x, rfl, hx0, hx1⟩, rfl⟩
      by_cases hx : (1048576 : Int) < x
      · go_wp2
        go_ret
        exact ⟨rfl, Below.refl _ _⟩
      · go_wp2_with fail
        refine (clone_any S ao n cap _ h0 hrow hn).mono ?_
        rintro e w3 ⟨ao', cap', rfl, hrow3, hb3⟩
        go_wp2_with fail
        refine (hfold ao' cap' _ hrow3 hn).mono ?_
        rintro e w4 ⟨rfl, hb4⟩
        have hrow4 := hrow3.below hb4
        have hb : Below w2.heap.size w2 w4 := hb3.trans (hb4.mono hb3.size)
        have ip : (0 : Int) < (n : Int) := by omega
        clear hrow hrow3 hb3 hb4 hfold
        go_wp2
        go_loopw [5, 6] (fun f i wr => ∃ k : Nat, k ≤ n ∧ f = .bool (seen S K k) ∧ i = .int .i64 k ∧ Below w4.heap.size w4 wr) (fun _ i _ => n - (intOf i).toNat)
        case atStart => exact ⟨0, Nat.zero_le _, rfl, rfl, Below.refl _ _⟩
        case round =>
          obtain ⟨k, hk, rfl, rfl, hbw⟩ := hrel
          by_cases hlt : k < n
          · obtain ⟨b, off, rfl, hbl, hc⟩ := hrow4 (by omega)
            have hcx : wr.cell? ⟨b, off + k, none⟩ = some (.string (S k)) := (hbw.cell (p := ⟨b, off + k, none⟩) hbl).trans (hc k hlt)
            have L := fun wx => less_no (S k) K wx (hsz k hlt) hKs (hlow k hlt)
            clear hc hrow4
            have i1 : (k : Int) < (n : Int) := by omega
            by_cases hq : ((S k).toList == K.toList) = true
            · have N : Hid (seen S K (k + 1) = true) := seen_hit hq
              go_wp2_with fail
              refine (L _).mono ?_
              rintro e w5 ⟨rfl, hb5⟩
              go_wp2
              go_roundw
              case rel => exact ⟨k + 1, by omega, by rw [N.out], by go_num, hbw.trans (hb5.mono hbw.size)⟩
              case measure => simp [intOf]; omega
            · have hq' : ((S k).toList == K.toList) = false := by simpa using hq
              have N : Hid (seen S K (k + 1) = seen S K k) := seen_miss hq'
              clear hq
              go_wp2_with fail
              refine (L _).mono ?_
              rintro e w5 ⟨rfl, hb5⟩
              go_wp2
              go_roundw
              case rel => exact ⟨k + 1, by omega, by rw [N.out], by go_num, hbw.trans (hb5.mono hbw.size)⟩
              case measure => simp [intOf]; omega
          · have i1 : ¬ (k : Int) < (n : Int) := by omega
            have hk' : k = n := by omega
            subst hk'
            go_wp2
            go_ret
            exact ⟨ret_bool HK.out, hb.trans (hbw.mono hb.size)⟩
    · have hn' : (65536 : Int) < (n : Int) := by omega
      go_wp2
      go_ret
      exact ⟨rfl, Below.refl _ _⟩
end Go.Proofs.Qxb6001273a
