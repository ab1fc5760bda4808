/-
  THE WALK of 'FnLowestAddNeverRisesAndIsIdempotent' (5).
-/
import Derived.Test.Qxb6001273aWalks3
namespace Go.Proofs.Qxb6001273a
open Go.ChangeShapes Go.WideShapes Go.ChangeAt Go.RowKit

theorem less_false (a b : ByteArray) (w : World) (ha : a.size ≤ maxLen) (hb : b.size ≤ maxLen) (h : lt a b = false) :
    Calls Try.prog 10 #[.string a, .string b] w fun e w' => e = .returned (.bool false) ∧ Below w.heap.size w w' := by
  refine (less_any a b w ha hb).mono ?_
  rintro e w' ⟨rfl, hb⟩
  exact ⟨ret_bool h, hb⟩
theorem add_to (key : ByteArray) (has : Bool) (k r : ByteArray) (h : addK key has k = r) (w : World) :
    Calls Try.prog 14 #[.string key, .bool has, .string k] w fun e w' => e = .returned (.tuple #[.string r, .bool true]) ∧ Below w.heap.size w w' := by
  subst h
  exact add_any key has k w

theorem fold_size (S : Nat → ByteArray) (st : ByteArray × Bool) (h0 : st.1.size ≤ maxLen) : ∀ i, (∀ j, j < i → (S j).size ≤ maxLen) → (fold S st i).1.size ≤ maxLen
  | 0, _ => h0
  | i + 1, h => by
    rw [fold_key]
    rcases addK_or (fold S st i).1 (S i) (fold S st i).2 with e | ⟨_, e⟩
    · rw [e]; exact h i (by omega)
    · rw [e]; exact fold_size S st h0 i (fun j hj => h j (by omega))

/-- Replaying the script from its own end. -/
theorem fold_rep (S : Nat → ByteArray) (s0 : ByteArray × Bool) (ao : Option Addr) (n cap : Nat) (w : World) (hrow : RowS w ao n S) (hn : n ≤ 65536) :
    Calls Try.prog 9 #[.string (fold S s0 n).1, .bool (fold S s0 n).2, .slice ao n cap, .int .i64 0, .int .i64 n] w fun e w' =>
      e = .returned (.tuple #[.string (fold S s0 n).1, .bool (fold S s0 n).2]) ∧ Below w.heap.size w w' := by
  refine (fold_any S ao n cap _ _ w hrow hn).mono ?_
  rintro e w' ⟨rfl, hb⟩
  have h := fold_replay S s0 n
  exact ⟨ret_sb (congrArg Prod.fst h) (congrArg Prod.snd h), hb⟩

set_option maxHeartbeats 3200000 in
set_option maxRecDepth 100000 in
theorem law5_any (st : ByteArray) (sh : Bool) (S : Nat → ByteArray) (ao : Option Addr) (n cap : Nat) (w : World) (hst : st.size ≤ maxLen) (h0 : ao = none → n = 0 ∧ cap = 0) (hrow : RowS w ao n S) (hsz : ∀ j, j < n → (S j).size ≤ maxLen) (hm : n ≤ 9223372036854775807) :
    Calls Try.prog 5 #[.string st, .bool sh, .slice ao n cap] w fun e w' => e = .returned (.bool true) ∧ Below w.heap.size w w' := by
  have hst' : st.size ≤ 9223372036854775807 := hst
  go_enter Try.func5, Try.ntmps5
  go_wp2_with fail
  refine (bytes13_any st sh S ao n cap _ hrow hst' hm).mono ?_
  rintro e w1 ⟨⟨x, rfl⟩, rfl⟩
  cases x with
  | false =>
    go_wp2
    go_ret
    exact ⟨rfl, Below.refl _ _⟩
  | true =>
    by_cases hn : n ≤ 65536
    · have hn' : ¬ (65536 : Int) < (n : Int) := by omega
      by_cases hs : (1048576 : Int) < (st.size : Int)
      · go_wp2
        go_ret
        exact ⟨rfl, Below.refl _ _⟩
      · go_wp2_with fail
        refine (keysBytes_any S ao n cap _ hrow hn).mono ?_
        rintro e w2 ⟨⟨x, rfl, hx0, hx1⟩, rfl⟩
        by_cases hx : (1048576 : Int) < (st.size : Int) + x
        · go_wp2
          go_ret
          exact ⟨rfl, Below.refl _ _⟩
        · go_wp2_with fail
          refine (clone_any S ao n cap _ h0 hrow hn).mono ?_
          rintro e w4 ⟨ao', cap', rfl, hrow4, hb⟩
          clear hrow
          go_wp2
          go_loopw [7, 8, 9] (fun ks hs i wr => ∃ k : Nat, k ≤ n ∧ ks = .string (fold S (st, sh) k).1 ∧ hs = .bool (fold S (st, sh) k).2 ∧ i = .int .i64 k ∧ Below w4.heap.size w4 wr) (fun _ _ i _ => n - (intOf i).toNat)
          case atStart => exact ⟨0, Nat.zero_le _, rfl, rfl, rfl, Below.refl _ _⟩
          case round =>
            obtain ⟨k, hk, rfl, rfl, rfl, hbw⟩ := hrel
            by_cases hlt : k < n
            · obtain ⟨b, off, rfl, hbl, hc⟩ := hrow4 (by omega)
              have hblr : b < wr.heap.size := Nat.lt_of_lt_of_le hbl hbw.size
              have hcx : wr.cell? ⟨b, off + k, none⟩ = some (.string (S k)) := (hbw.cell (p := ⟨b, off + k, none⟩) hbl).trans (hc k hlt)
              have hsk := hsz k hlt
              have hks := fold_size S (st, sh) hst k (fun j hj => hsz j (by omega))
              have NX1 : Hid ((fold S (st, sh) (k + 1)).1 = addK (fold S (st, sh) k).1 (fold S (st, sh) k).2 (S k)) := fold_key S (st, sh) k
              have NX2 : Hid ((fold S (st, sh) (k + 1)).2 = true) := fold_has S (st, sh) k
              clear hc hrow4 hsz
              have i1 : (k : Int) < (n : Int) := by omega
              generalize (fold S (st, sh) k).1 = key at *
              generalize (fold S (st, sh) k).2 = has at *
              cases has with
              | false =>
                have NX : Hid ((fold S (st, sh) (k + 1)).1 = S k) := NX1.out.trans (addK_first _ _)
                have A1 := add_to key false (S k) (S k) (addK_first _ _)
                have A2 := add_to (S k) true (S k) (S k) (addK_keep (lt_irrefl _))
                clear NX1
                go_wp2_with fail
                refine (A1 _).mono ?_
                rintro e w5 ⟨rfl, hb5⟩
                have hc5 : w5.cell? ⟨b, off + k, none⟩ = some (.string (S k)) := (hb5.cell (p := ⟨b, off + k, none⟩) hblr).trans hcx
                go_wp2_with fail
                refine (A2 _).mono ?_
                rintro e w6 ⟨rfl, hb6⟩
                go_wp2
                go_roundw
                case rel => exact ⟨k + 1, by omega, by rw [NX.out], by rw [NX2.out], by go_num, (hbw.trans (hb5.mono hbw.size)).trans (hb6.mono (Nat.le_trans hbw.size hb5.size))⟩
                case measure => simp [intOf]; omega
              | true =>
                by_cases hlow : lt (S k) key = true
                · have NX : Hid ((fold S (st, sh) (k + 1)).1 = S k) := NX1.out.trans (addK_take hlow)
                  have A1 := add_to key true (S k) (S k) (addK_take hlow)
                  have L := fun wx => less_false key (S k) wx hks hsk (lt_asymm hlow)
                  have A2 := add_to (S k) true (S k) (S k) (addK_keep (lt_irrefl _))
                  clear NX1 hlow
                  go_wp2_with fail
                  refine (A1 _).mono ?_
                  rintro e w5 ⟨rfl, hb5⟩
                  have hblr5 : b < w5.heap.size := Nat.lt_of_lt_of_le hblr hb5.size
                  have hc5 : w5.cell? ⟨b, off + k, none⟩ = some (.string (S k)) := (hb5.cell (p := ⟨b, off + k, none⟩) hblr).trans hcx
                  go_wp2_with fail
                  refine (L _).mono ?_
                  rintro e w7 ⟨rfl, hb7⟩
                  have hc7 : w7.cell? ⟨b, off + k, none⟩ = some (.string (S k)) := (hb7.cell (p := ⟨b, off + k, none⟩) hblr5).trans hc5
                  go_wp2_with fail
                  refine (A2 _).mono ?_
                  rintro e w6 ⟨rfl, hb6⟩
                  go_wp2
                  go_roundw
                  case rel => exact ⟨k + 1, by omega, by rw [NX.out], by rw [NX2.out], by go_num, ((hbw.trans (hb5.mono hbw.size)).trans (hb7.mono (Nat.le_trans hbw.size hb5.size))).trans (hb6.mono (Nat.le_trans (Nat.le_trans hbw.size hb5.size) hb7.size))⟩
                  case measure => simp [intOf]; omega
                · have hkeep : lt (S k) key = false := by simpa using hlow
                  have NX : Hid ((fold S (st, sh) (k + 1)).1 = key) := NX1.out.trans (addK_keep hkeep)
                  have A1 := add_to key true (S k) key (addK_keep hkeep)
                  have L := fun wx => less_false key key wx hks hks (lt_irrefl _)
                  have A2 := add_to key true (S k) key (addK_keep hkeep)
                  clear NX1 hlow hkeep
                  by_cases hq : (key.toList == (S k).toList) = true
                  · go_wp2_with fail
                    refine (A1 _).mono ?_
                    rintro e w5 ⟨rfl, hb5⟩
                    have hblr5 : b < w5.heap.size := Nat.lt_of_lt_of_le hblr hb5.size
                    have hc5 : w5.cell? ⟨b, off + k, none⟩ = some (.string (S k)) := (hb5.cell (p := ⟨b, off + k, none⟩) hblr).trans hcx
                    go_wp2_with fail
                    refine (L _).mono ?_
                    rintro e w7 ⟨rfl, hb7⟩
                    have hc7 : w7.cell? ⟨b, off + k, none⟩ = some (.string (S k)) := (hb7.cell (p := ⟨b, off + k, none⟩) hblr5).trans hc5
                    go_wp2_with fail
                    refine (A2 _).mono ?_
                    rintro e w6 ⟨rfl, hb6⟩
                    go_wp2
                    go_roundw
                    case rel => exact ⟨k + 1, by omega, by rw [NX.out], by rw [NX2.out], by go_num, ((hbw.trans (hb5.mono hbw.size)).trans (hb7.mono (Nat.le_trans hbw.size hb5.size))).trans (hb6.mono (Nat.le_trans (Nat.le_trans hbw.size hb5.size) hb7.size))⟩
                    case measure => simp [intOf]; omega
                  · have hq' : (key.toList == (S k).toList) = false := by simpa using hq
                    clear hq
                    go_wp2_with fail
                    refine (A1 _).mono ?_
                    rintro e w5 ⟨rfl, hb5⟩
                    have hblr5 : b < w5.heap.size := Nat.lt_of_lt_of_le hblr hb5.size
                    have hc5 : w5.cell? ⟨b, off + k, none⟩ = some (.string (S k)) := (hb5.cell (p := ⟨b, off + k, none⟩) hblr).trans hcx
                    go_wp2_with fail
                    refine (L _).mono ?_
                    rintro e w7 ⟨rfl, hb7⟩
                    have hc7 : w7.cell? ⟨b, off + k, none⟩ = some (.string (S k)) := (hb7.cell (p := ⟨b, off + k, none⟩) hblr5).trans hc5
                    go_wp2_with fail
                    refine (A2 _).mono ?_
                    rintro e w6 ⟨rfl, hb6⟩
                    go_wp2
                    go_roundw
                    case rel => exact ⟨k + 1, by omega, by rw [NX.out], by rw [NX2.out], by go_num, ((hbw.trans (hb5.mono hbw.size)).trans (hb7.mono (Nat.le_trans hbw.size hb5.size))).trans (hb6.mono (Nat.le_trans (Nat.le_trans hbw.size hb5.size) hb7.size))⟩
                    case measure => simp [intOf]; omega
            · have i1 : ¬ (k : Int) < (n : Int) := by omega
              have hk' : k = n := by omega
              subst hk'
              have F := fold_rep S (st, sh) ao' k cap' wr (hrow4.below hbw) hn
              generalize (fold S (st, sh) k).1 = key at *
              generalize (fold S (st, sh) k).2 = has at *
              go_wp2_with fail
              refine F.mono ?_
              rintro e w5 ⟨rfl, hb5⟩
              go_wp2
              go_ret
              refine ⟨ret_bool (by simp), hb.trans ((hbw.trans (hb5.mono hbw.size)).mono hb.size)⟩
    · have hn' : (65536 : Int) < (n : Int) := by omega
      go_wp2
      go_ret
      exact ⟨rfl, Below.refl _ _⟩
end Go.Proofs.Qxb6001273a
