/-
  THE WALK of the law 'FnGoesOnBlockQuoteSpec' (10).
-/
import Derived.Test.Qxb6001283aLaw
namespace Go.Proofs.Qxb6001283a
open Go.ChangeShapes Go.WideShapes Go.ChangeAt Go.RowKit

theorem atv_past {Z : Nat → Int} {len k : Nat} {nb : Bool} (h : ¬ k < len) : (atv Z len nb k == 62) = false ∧ ws (atv Z len nb k) = false := by
  rw [atv_out h]
  cases nb <;> simp [ws]

section
variable (w : World) (ao : Option Addr) (len cap : Nat) (nb : Bool) (Z : Nat → Int) (p : Nat) (col : Int) (E : Nat) (C : Int)
theorem q_bare (hrow : RowB w ao len Z) (hp : p ≤ len) (hc0 : 0 ≤ col) (hc1 : col ≤ 1073741824) (hl : len ≤ 1048576) (hat : At Z len p col E C)
    (hi : C - col ≤ 3) (hE : E < len) (hz : (Z E == 62) = true) (hw : E + 1 < len → ws (Z (E + 1)) = false) :
    Calls Try.prog 26 #[.slice ao len cap, .bool nb, .int .i64 p, .int .i64 col, .int .u8 1, .int .i64 0, .bool false, .int .i64 0] w fun e w' => e = .returned (.tuple #[.bool true, .int .i64 ((E : Int) + 1), .int .i64 (C + 1)]) ∧ Below w.heap.size w w' := by
  refine (zz_bare w ao len cap nb Z p col E C hrow hp hc0 hc1 hl hat hi hE hz ?_).mono ?_
  · by_cases h : E + 1 < len
    · rw [atv_in h]; exact hw h
    · exact (atv_past h).2
  · rintro e w' ⟨rfl, hb⟩
    exact ⟨ret3 rfl (by omega) rfl, hb⟩
theorem q_whole (hrow : RowB w ao len Z) (hp : p ≤ len) (hc0 : 0 ≤ col) (hc1 : col ≤ 1073741824) (hl : len ≤ 1048576) (hat : At Z len p col E C)
    (hi : C - col ≤ 3) (hE : E < len) (hz : (Z E == 62) = true) (hE1 : E + 1 < len) (hw : ws (Z (E + 1)) = true) (hs : (Z (E + 1) == 32) = true ∨ (C + 1) % 4 = 3) :
    Calls Try.prog 26 #[.slice ao len cap, .bool nb, .int .i64 p, .int .i64 col, .int .u8 1, .int .i64 0, .bool false, .int .i64 0] w fun e w' => e = .returned (.tuple #[.bool true, .int .i64 ((E : Int) + 2), .int .i64 (C + 2)]) ∧ Below w.heap.size w w' := by
  obtain ⟨K2, C2, hto⟩ := to_ex Z len (E + 1) (C + 1) 1
  have hq : K2 = E + 1 + 1 ∧ C2 = C + 1 + 1 := by
    by_cases h9 : (Z (E + 1) == 9) = true
    · rcases hs with hs | hs
      · exfalso
        rw [beq_iff_eq] at h9 hs
        omega
      · exact to_whole hE1 h9 (by omega) hto
    · exact to_one hE1 (by simpa using h9) hto
  obtain ⟨rfl, rfl⟩ := hq
  refine (zz_more w ao len cap nb Z p col E C hrow hp hc0 hc1 hl hat hi hE hz hE1 hw _ _ hto).mono ?_
  rintro e w' ⟨rfl, hb⟩
  exact ⟨ret3 rfl (by omega) (by omega), hb⟩
theorem q_part (hrow : RowB w ao len Z) (hp : p ≤ len) (hc0 : 0 ≤ col) (hc1 : col ≤ 1073741824) (hl : len ≤ 1048576) (hat : At Z len p col E C)
    (hi : C - col ≤ 3) (hE : E < len) (hz : (Z E == 62) = true) (hE1 : E + 1 < len) (h9 : (Z (E + 1) == 9) = true) (hs : (C + 1) % 4 ≠ 3) :
    Calls Try.prog 26 #[.slice ao len cap, .bool nb, .int .i64 p, .int .i64 col, .int .u8 1, .int .i64 0, .bool false, .int .i64 0] w fun e w' => e = .returned (.tuple #[.bool true, .int .i64 ((E : Int) + 1), .int .i64 (C + 2)]) ∧ Below w.heap.size w w' := by
  obtain ⟨K2, C2, hto⟩ := to_ex Z len (E + 1) (C + 1) 1
  have hq := to_part hE1 h9 (by omega) hto
  obtain ⟨rfl, rfl⟩ := hq
  refine (zz_more w ao len cap nb Z p col E C hrow hp hc0 hc1 hl hat hi hE hz hE1 (ws_tab h9) _ _ hto).mono ?_
  rintro e w' ⟨rfl, hb⟩
  exact ⟨ret3 rfl (by omega) (by omega), hb⟩
end

set_option maxHeartbeats 3200000 in
set_option maxRecDepth 100000 in
theorem law_in (Z : Nat → Int) (ao : Option Addr) (n cap : Nat) (nb : Bool) (p : Nat) (col : Int) (w : World) (h0 : ao = none → n = 0 ∧ cap = 0) (hrow : RowB w ao n Z) (hn : n ≤ 1048576) (hp : p ≤ n) (hc0 : 0 ≤ col) (hc1 : col ≤ 1073741824) :
    Calls Try.prog 10 #[.slice ao n cap, .bool nb, .int .i64 p, .int .i64 col] w fun e w' => e = .returned (.bool true) ∧ Below w.heap.size w w' := by
  obtain ⟨E, C, hat⟩ := at_ex Z n p col
  have hab := hat.bd hp hc0
  have bE : E ≤ n := hab.2.1
  have bC0 : 0 ≤ C := by omega
  have bC1 : C ≤ 1073741824 + 4194304 := by omega
  have bD : 0 ≤ C - col := by omega
  have i1 : ¬ (1048576 : Int) < (n : Int) := by omega
  have i2 : ¬ (p : Int) < 0 := by omega
  have i3 : ¬ (n : Int) < (p : Int) := by omega
  have i4 : ¬ col < 0 := by omega
  have i5 : ¬ (1073741824 : Int) < col := by omega
  clear hab
  go_enter Try.func10, Try.ntmps10
  go_wp2_with fail
  refine (bytes_yes ao n cap nb p col _ hn).mono ?_
  rintro e w1 ⟨rfl, rfl⟩
  go_wp2_with fail
  refine (clone_any Z ao n cap _ h0 hrow hn).mono ?_
  rintro e w2 ⟨ao', cap', rfl, hrow2, hb2⟩
  clear hrow
  go_wp2_with fail
  go_loop [9, 10] (fun i cc => ∃ (k : Nat) (ck : Int), k ≤ n ∧ p ≤ k ∧ 0 ≤ ck ∧ ck ≤ 1073741824 + 4 * ((k : Int) - p) ∧ i = .int .i64 k ∧ cc = .int .i64 ck ∧ At Z n k ck E C) (fun i _ => n - (intOf i).toNat)
  case atStart => exact ⟨p, col, hp, Nat.le_refl _, hc0, by omega, rfl, rfl, hat⟩
  case round =>
    obtain ⟨k, ck, hk, hpk, hk0, hk1, rfl, rfl, hak⟩ := hrel
    by_cases hw : k < n ∧ ws (Z k) = true
    · obtain ⟨hkl, hws⟩ := hw
      have NX := hak.step hkl hws
      obtain ⟨b, off, rfl, hbl, hc⟩ := hrow2 (by omega)
      have hcx := hc k hkl
      have j1 : (k : Int) < (n : Int) := by omega
      clear hc hrow2
      by_cases s1 : (Z k == 32) = true
      · rw [adv_space s1] at NX
        go_wp2_with (go_at_call 28; refine (sot28 _ _).mono ?_; rintro e w' ⟨rfl, rfl⟩)
        go_round
        case rel => exact ⟨k + 1, ck + 1, by omega, by omega, by omega, by omega, by go_num, rfl, NX⟩
        case measure => simp [intOf]; omega
      · have s1' : (Z k == 32) = false := by simpa using s1
        rw [adv_tab s1'] at NX
        clear s1
        go_wp2_with (go_at_call 28; refine (sot28 _ _).mono ?_; rintro e w' ⟨rfl, rfl⟩)
        go_round
        case rel => exact ⟨k + 1, ck + (4 - ck % 4), by omega, by omega, by omega, by omega, by go_num, rfl, NX⟩
        case measure => simp [intOf]; omega
    · have hE := hak.stop hw
      obtain ⟨e1, e2⟩ := hE
      subst e1
      subst e2
      by_cases hlt : E < n
      · have hwE : ws (Z E) = false := by simpa [hlt] using hw
        have hr := hrow2
        obtain ⟨b, off, rfl, hbl, hc⟩ := hrow2 (by omega)
        have hcx := hc E hlt
        have j1 : (E : Int) < (n : Int) := by omega
        clear hw
        by_cases z62 : (Z E == 62) = true
        · by_cases h3 : C - col ≤ 3
          · by_cases hE1 : E + 1 < n
            · have j2 : (E : Int) + 1 < (n : Int) := by omega
              by_cases s32 : (Z (E + 1) == 32) = true
              · have hws : ws (Z (E + 1)) = true := ws_space s32
                have F := fun wx hr => q_whole wx (some ⟨b, off, none⟩) n cap' nb Z p col E C hr hp hc0 hc1 hn hat h3 hlt z62 hE1 hws (.inl s32)
                go_wp2_with (go_at_call 28; refine (sot28 _ _).mono ?_; rintro e w' ⟨rfl, rfl⟩)
                refine (F _ hr).mono ?_
                rintro e w3 ⟨rfl, hb3⟩
                have hc3 : w3.cell? ⟨b, off + (E + 1), none⟩ = some (.int .u8 (Z (E + 1))) := (hb3.cell (p := ⟨b, off + (E + 1), none⟩) hbl).trans (hc (E + 1) hE1)
                go_wp2_with (go_at_call 28; refine (sot28 _ _).mono ?_; rintro e w' ⟨rfl, rfl⟩)
                go_ret
                exact ⟨rfl, hb2.trans (hb3.mono hb2.size)⟩
              · have s32' : (Z (E + 1) == 32) = false := by simpa using s32
                clear s32
                by_cases s9 : (Z (E + 1) == 9) = true
                · have hws : ws (Z (E + 1)) = true := ws_tab s9
                  by_cases m3 : (C + 1) % 4 = 3
                  · have m3' : ((C + 1) % 4 == 3) = true := by simpa using m3
                    have F := fun wx hr => q_whole wx (some ⟨b, off, none⟩) n cap' nb Z p col E C hr hp hc0 hc1 hn hat h3 hlt z62 hE1 hws (.inr m3)
                    clear m3
                    go_wp2_with (go_at_call 28; refine (sot28 _ _).mono ?_; rintro e w' ⟨rfl, rfl⟩)
                    refine (F _ hr).mono ?_
                    rintro e w3 ⟨rfl, hb3⟩
                    have hc3 : w3.cell? ⟨b, off + (E + 1), none⟩ = some (.int .u8 (Z (E + 1))) := (hb3.cell (p := ⟨b, off + (E + 1), none⟩) hbl).trans (hc (E + 1) hE1)
                    go_wp2_with (go_at_call 28; refine (sot28 _ _).mono ?_; rintro e w' ⟨rfl, rfl⟩)
                    go_ret
                    exact ⟨rfl, hb2.trans (hb3.mono hb2.size)⟩
                  · have m3' : ((C + 1) % 4 == 3) = false := by simpa using m3
                    have F := fun wx hr => q_part wx (some ⟨b, off, none⟩) n cap' nb Z p col E C hr hp hc0 hc1 hn hat h3 hlt z62 hE1 s9 m3
                    clear m3
                    go_wp2_with (go_at_call 28; refine (sot28 _ _).mono ?_; rintro e w' ⟨rfl, rfl⟩)
                    refine (F _ hr).mono ?_
                    rintro e w3 ⟨rfl, hb3⟩
                    have hc3 : w3.cell? ⟨b, off + (E + 1), none⟩ = some (.int .u8 (Z (E + 1))) := (hb3.cell (p := ⟨b, off + (E + 1), none⟩) hbl).trans (hc (E + 1) hE1)
                    go_wp2_with (go_at_call 28; refine (sot28 _ _).mono ?_; rintro e w' ⟨rfl, rfl⟩)
                    go_ret
                    exact ⟨rfl, hb2.trans (hb3.mono hb2.size)⟩
                · have hws : ws (Z (E + 1)) = false := ws_no s32' (by simpa using s9)
                  have F := fun wx hr => q_bare wx (some ⟨b, off, none⟩) n cap' nb Z p col E C hr hp hc0 hc1 hn hat h3 hlt z62 (fun _ => hws)
                  clear s9
                  go_wp2_with (go_at_call 28; refine (sot28 _ _).mono ?_; rintro e w' ⟨rfl, rfl⟩)
                  refine (F _ hr).mono ?_
                  rintro e w3 ⟨rfl, hb3⟩
                  have hc3 : w3.cell? ⟨b, off + (E + 1), none⟩ = some (.int .u8 (Z (E + 1))) := (hb3.cell (p := ⟨b, off + (E + 1), none⟩) hbl).trans (hc (E + 1) hE1)
                  go_wp2_with (go_at_call 28; refine (sot28 _ _).mono ?_; rintro e w' ⟨rfl, rfl⟩)
                  go_ret
                  exact ⟨rfl, hb2.trans (hb3.mono hb2.size)⟩
            · have j2 : ¬ (E : Int) + 1 < (n : Int) := by omega
              have F := fun wx hr => q_bare wx (some ⟨b, off, none⟩) n cap' nb Z p col E C hr hp hc0 hc1 hn hat h3 hlt z62 (fun h => absurd h hE1)
              go_wp2_with (go_at_call 28; refine (sot28 _ _).mono ?_; rintro e w' ⟨rfl, rfl⟩)
              refine (F _ hr).mono ?_
              rintro e w3 ⟨rfl, hb3⟩
              go_wp2_with (go_at_call 28; refine (sot28 _ _).mono ?_; rintro e w' ⟨rfl, rfl⟩)
              go_ret
              exact ⟨rfl, hb2.trans (hb3.mono hb2.size)⟩
          · have F := fun wx hr => zz_no wx (some ⟨b, off, none⟩) n cap' nb Z p col E C hr hp hc0 hc1 hn hat (.inl (by omega))
            go_wp2_with (go_at_call 28; refine (sot28 _ _).mono ?_; rintro e w' ⟨rfl, rfl⟩)
            refine (F _ hr).mono ?_
            rintro e w3 ⟨rfl, hb3⟩
            go_wp2_with (go_at_call 28; refine (sot28 _ _).mono ?_; rintro e w' ⟨rfl, rfl⟩)
            go_ret
            exact ⟨rfl, hb2.trans (hb3.mono hb2.size)⟩
        · have z62' : (Z E == 62) = false := by simpa using z62
          clear z62
          have F := fun wx hr => zz_no wx (some ⟨b, off, none⟩) n cap' nb Z p col E C hr hp hc0 hc1 hn hat (.inr (by rw [atv_in hlt]; exact z62'))
          go_wp2_with (go_at_call 28; refine (sot28 _ _).mono ?_; rintro e w' ⟨rfl, rfl⟩)
          refine (F _ hr).mono ?_
          rintro e w3 ⟨rfl, hb3⟩
          go_wp2_with (go_at_call 28; refine (sot28 _ _).mono ?_; rintro e w' ⟨rfl, rfl⟩)
          go_ret
          exact ⟨rfl, hb2.trans (hb3.mono hb2.size)⟩
      · have j1 : ¬ (E : Int) < (n : Int) := by omega
        have F := fun wx hr => zz_no wx ao' n cap' nb Z p col E C hr hp hc0 hc1 hn hat (.inr (atv_past hlt).1)
        go_wp2_with fail
        refine (F _ hrow2).mono ?_
        rintro e w3 ⟨rfl, hb3⟩
        go_wp2_with fail
        go_ret
        exact ⟨rfl, hb2.trans (hb3.mono hb2.size)⟩
end Go.Proofs.Qxb6001283a
