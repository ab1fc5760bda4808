/-
  THE WALK of 'nonspace' (39).
-/
import Derived.Test.Qxb6001283aCursor
import Derived.Deep.RegionWith
namespace Go.Proofs.Qxb6001283a
open Go.ChangeShapes Go.WideShapes Go.ChangeAt Go.RowKit

theorem atv_bytes {Z : Nat → Int} {len k : Nat} {nb : Bool} (hw : ¬ (k < len ∧ ws (Z k) = true)) : (atv Z len nb k == 32) = false ∧ (atv Z len nb k == 9) = false := by
  by_cases h : k < len
  · rw [atv_in h]
    have : ws (Z k) = false := by simpa [h] using hw
    simpa [ws] using this
  · rw [atv_out h]
    cases nb <;> simp

theorem cur_scanned {w : World} {c t : Nat} {ao : Option Addr} {len cap : Nat} {nb : Bool} {Z : Nat → Int} {pos col fns fc ind : Int} {bl : Bool} (h : Cur w c t ao len cap nb Z pos col fns fc ind bl) (q : Nat) (k C d : Int) (b : Bool) :
    Blk w (((((w.drewN q).setCell ⟨c, 4, none⟩ (.int .i64 k)).setCell ⟨c, 5, none⟩ (.int .i64 C)).setCell ⟨c, 6, none⟩ (.int .i64 d)).setCell ⟨c, 7, none⟩ (.bool b)) c
      #[.slice ao len cap, .pointer (some ⟨t, 0, none⟩), .int .i64 pos, .int .i64 col, .int .i64 k, .int .i64 C, .int .i64 d, .bool b] :=
  ((((h.start.drewN q).set 4 _).set 5 _).set 6 _).set 7 _

set_option maxHeartbeats 1600000 in
set_option maxRecDepth 100000 in
theorem nonspace_any (w : World) (c t : Nat) (ao : Option Addr) (len cap : Nat) (nb : Bool) (Z : Nat → Int) (p : Nat) (col fns fc ind : Int) (bl : Bool) (E : Nat) (C : Int)
    (h : Cur w c t ao len cap nb Z (p : Int) col fns fc ind bl) (hp : p ≤ len) (hc0 : 0 ≤ col) (hc1 : col ≤ 1073741824) (hl : len ≤ 1048576) (hat : At Z len p col E C) :
    Calls Try.prog 39 #[.pointer (some ⟨c, 0, none⟩)] w fun e w' => e = .returned (.tuple #[]) ∧ Blk w w' c #[.slice ao len cap, .pointer (some ⟨t, 0, none⟩), .int .i64 (p : Int), .int .i64 col, .int .i64 (E : Int), .int .i64 C, .int .i64 (C - col), .bool (atv Z len nb E == 0)] := by
  have h2 := h.c2
  have h3 := h.c3
  go_enter Try.func39, Try.ntmps39
  go_wp2_with fail
  go_quiet (fail)
  go_wp2_with fail
  go_loop [2, 3, 4] (fun i cc tt => ∃ (k : Nat) (ck tk : Int), k ≤ len ∧ p ≤ k ∧ 0 ≤ ck ∧ ck ≤ 1073741824 + 4 * ((k : Int) - p) ∧ 1 ≤ tk ∧ tk ≤ 4 ∧ i = .int .i64 k ∧ cc = .int .i64 ck ∧ tt = .int .i64 tk ∧ Hid (tk = 4 - ck % 4) ∧ At Z len k ck E C) (fun i _ _ => len - (intOf i).toNat)
  case atStart => exact ⟨p, col, _, hp, Nat.le_refl _, hc0, by omega, by omega, by omega, rfl, rfl, rfl, rfl, hat⟩
  case round =>
    obtain ⟨k, ck, tk, hk, hpk, hk0, hk1, ht1, ht4, rfl, rfl, rfl, htk, hak⟩ := hrel
    have A := fun wx q => at_any wx c t ao len cap nb Z p col fns fc ind bl q (k : Int) k rfl
    by_cases hw : k < len ∧ ws (Z k) = true
    · have ha : Hid (atv Z len nb k = Z k) := atv_in hw.1
      have NX := hak.step hw.1 hw.2
      have hkl := hw.1
      by_cases s1 : (Z k == 32) = true
      · rw [adv_space s1] at NX
        have hws : Hid (ws (Z k) = true) := hw.2
        clear hw
        by_cases e1 : tk = 1
        · subst e1
          go_wp2_with fail
          refine (A _ (h.drewN _)).mono ?_
          rintro e w1 ⟨rfl, rfl⟩
          rw [ha.out]
          go_wp2
          go_round
          case rel => exact ⟨k + 1, ck + 1, 4, by omega, by omega, by omega, by omega, by omega, by omega, by go_num, rfl, rfl, show (4 : Int) = 4 - (ck + 1) % 4 by have := htk.out; omega, NX⟩
          case measure => simp [intOf]; omega
        · have e2 : (tk - 1 == 0) = false := by simp; omega
          go_wp2_with fail
          refine (A _ (h.drewN _)).mono ?_
          rintro e w1 ⟨rfl, rfl⟩
          rw [ha.out]
          go_wp2
          go_round
          case rel => exact ⟨k + 1, ck + 1, tk - 1, by omega, by omega, by omega, by omega, by omega, by omega, by go_num, rfl, rfl, show tk - 1 = 4 - (ck + 1) % 4 by have := htk.out; omega, NX⟩
          case measure => simp [intOf]; omega
      · have s1' : (Z k == 32) = false := by simpa using s1
        have s2 : (Z k == 9) = true := ws_or hw.2 s1'
        rw [adv_tab s1', ← htk.out] at NX
        clear hw s1
        go_wp2_with fail
        refine (A _ (h.drewN _)).mono ?_
        rintro e w1 ⟨rfl, rfl⟩
        rw [ha.out]
        go_wp2
        go_round
        case rel => exact ⟨k + 1, ck + tk, 4, by omega, by omega, by omega, by omega, by omega, by omega, by go_num, rfl, rfl, show (4 : Int) = 4 - (ck + tk) % 4 by have := htk.out; omega, NX⟩
        case measure => simp [intOf]; omega
    · obtain ⟨n1, n2⟩ := atv_bytes (nb := nb) hw
      have HE : Hid (E = k ∧ C = ck) := hak.stop hw
      have W : Hid (IntKind.i64.wrap (ck - col) = ck - col) := wrap_id (by omega) (by omega)
      go_wp2_with fail
      refine (A _ (h.drewN _)).mono ?_
      rintro e w1 ⟨rfl, rfl⟩
      go_wp2_with fail
      have f4 := h.free 4
      have f5 := h.free 5
      have f6 := h.free 6
      have f7 := h.free 7
      have h4 := h.c4
      have h5 := h.c5
      have h6 := h.c6
      have h7 := h.c7
      go_region_with (go_at_call 33; refine (A _ ?_).mono ?_; exact h.drewN _; rintro e w1 ⟨rfl, rfl⟩)
      all_goals
        go_end0
        rw [W.out]
        exact ⟨rfl, by have R := cur_scanned h (nq + 1) (k : Int) ck (ck - col) (atv Z len nb k == 0); rw [← HE.out.1, ← HE.out.2] at R ⊢; exact R⟩
end Go.Proofs.Qxb6001283a
