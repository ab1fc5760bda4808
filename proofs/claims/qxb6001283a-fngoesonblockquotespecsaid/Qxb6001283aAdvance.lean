/-
  THE WALK of 'advance' (40), by columns.
-/
import Derived.Test.Qxb6001283aCursor
import Derived.BigRegion
namespace Go.Proofs.Qxb6001283a
open Go.ChangeShapes Go.WideShapes Go.ChangeAt Go.RowKit

/-- The cursor's cells. -/
def cur (ao : Option Addr) (len cap t : Nat) (pos col fns fc ind : Int) (bl : Bool) : Array Value :=
  #[.slice ao len cap, .pointer (some ⟨t, 0, none⟩), .int .i64 pos, .int .i64 col, .int .i64 fns, .int .i64 fc, .int .i64 ind, .bool bl]

section
variable {w wr : World} {c t : Nat} {ao : Option Addr} {len cap : Nat} {col fns fc ind : Int} {bl : Bool} {k : Nat}
theorem blk_both (hb : Blk w wr c (cur ao len cap t (k : Int) col fns fc ind bl)) (q : Nat) (col' : Int) :
    Blk w (((wr.drewN q).setCell ⟨c, 2, none⟩ (.int .i64 ((k : Int) + 1))).setCell ⟨c, 3, none⟩ (.int .i64 col')) c (cur ao len cap t ((k + 1 : Nat) : Int) col' fns fc ind bl) := by
  rw [show ((k + 1 : Nat) : Int) = (k : Int) + 1 from by omega]
  exact ((hb.drewN q).set 2 _).set 3 _
theorem blk_both' (hb : Blk w wr c (cur ao len cap t (k : Int) col fns fc ind bl)) (q : Nat) (col' : Int) :
    Blk w (((wr.drewN q).setCell ⟨c, 3, none⟩ (.int .i64 col')).setCell ⟨c, 2, none⟩ (.int .i64 ((k : Int) + 1))) c (cur ao len cap t ((k + 1 : Nat) : Int) col' fns fc ind bl) := by
  rw [show ((k + 1 : Nat) : Int) = (k : Int) + 1 from by omega]
  exact ((hb.drewN q).set 3 _).set 2 _
theorem blk_col (hb : Blk w wr c (cur ao len cap t (k : Int) col fns fc ind bl)) (q : Nat) (col' : Int) :
    Blk w ((wr.drewN q).setCell ⟨c, 3, none⟩ (.int .i64 col')) c (cur ao len cap t (k : Int) col' fns fc ind bl) :=
  (hb.drewN q).set 3 _
end

set_option maxHeartbeats 1600000 in
set_option maxRecDepth 100000 in
theorem advance_any (w : World) (c t : Nat) (ao : Option Addr) (len cap : Nat) (nb : Bool) (Z : Nat → Int) (p : Nat) (col fns fc ind : Int) (bl : Bool) (n : Int) (K : Nat) (C : Int)
    (h : Cur w c t ao len cap nb Z (p : Int) col fns fc ind bl) (hc0 : 0 ≤ col) (hn0 : 0 ≤ n) (hT : col + n ≤ 4611686018427387904) (hl : len ≤ 1048576) (hp : p ≤ len) (hto : To Z len p col n K C) :
    Calls Try.prog 40 #[.pointer (some ⟨c, 0, none⟩), .int .i64 n, .bool true] w fun e w' => e = .returned (.tuple #[]) ∧ Blk w w' c (cur ao len cap t (K : Int) C fns fc ind bl) := by
  go_enter Try.func40, Try.ntmps40
  go_wp2_with fail
  go_loopw [1] (fun cn wr => ∃ (k : Nat) (ck m : Int), k ≤ len ∧ 0 ≤ ck ∧ 0 ≤ m ∧ ck + m ≤ 4611686018427387904 ∧ cn = .int .i64 m ∧ Blk w wr c (cur ao len cap t (k : Int) ck fns fc ind bl) ∧ To Z len k ck m K C) (fun cn _ => (intOf cn).toNat)
  case atStart => exact ⟨p, col, n, hp, hc0, hn0, hT, rfl, h.start, hto⟩
  case round =>
    obtain ⟨k, ck, m, hk, hk0, hm0, hkm, rfl, hb, ht⟩ := hrel
    have h' : Cur wr c t ao len cap nb Z (k : Int) ck fns fc ind bl := h.moved hb
    have q0 := h'.c0
    have q2 := h'.c2
    have q3 := h'.c3
    by_cases hm : 0 < m
    · have dm : decide (0 < m) = true := by simpa using hm
      by_cases hlt : k < len
      · obtain ⟨b, off, rfl, hne, hc⟩ := h'.row (by omega)
        have hcx := hc k hlt
        have i1 : (k : Int) < (len : Int) := by omega
        have f2 := h'.free 2
        have f3 := h'.free 3
        have NX := ht.next hm hlt
        clear hc h'
        by_cases h9 : (Z k == 9) = true
        · have h9'' : (Z k != 9) = false := by simpa [bne] using h9
          have tt := Int.emod_lt_of_pos ck (show (0 : Int) < 4 by omega)
          have tt0 := Int.emod_nonneg ck (show (4 : Int) ≠ 0 by omega)
          by_cases hpart : m < 4 - ck % 4
          · rw [step_part h9 hpart] at NX
            go_wp2_with fail
            go_quiet (fail)
            go_wp2_with fail
            go_quiet (fail)
            go_wp2_with fail
            go_roundw
            case rel => exact ⟨k, ck + m, 0, by omega, by omega, by omega, by omega, rfl, blk_col hb _ _, NX⟩
            case measure => simp [intOf]; omega
          · rw [step_whole h9 hpart] at NX
            go_wp2_with fail
            go_quiet (fail)
            go_wp2_with fail
            go_quiet (fail)
            go_wp2_with fail
            have e : (if 4 - ck % 4 < m then 4 - ck % 4 else m) = 4 - ck % 4 := by split <;> omega
            rw [e]
            go_roundw
            case rel => exact ⟨k + 1, ck + (4 - ck % 4), m - (4 - ck % 4), by omega, by omega, by omega, by omega, rfl, blk_both' hb _ _, NX⟩
            case measure => simp [intOf]; omega
        · have h9' : (Z k == 9) = false := by simpa using h9
          have h9'' : (Z k != 9) = true := by simpa [bne] using h9'
          rw [step_plain h9'] at NX
          clear h9
          go_wp2_with fail
          go_quiet (fail)
          go_wp2_with fail
          go_quiet (fail)
          go_wp2_with fail
          go_region
          go_wp2_with fail
          go_roundw
          case rel => exact ⟨k + 1, ck + 1, m - 1, by omega, by omega, by omega, by omega, rfl, blk_both hb _ _, NX⟩
          case measure => simp [intOf]; omega
      · have i1 : ¬ (k : Int) < (len : Int) := by omega
        have HE : Hid (K = k ∧ C = ck) := ht.stop (by omega)
        clear h'
        go_wp2_with fail
        go_quiet (fail)
        go_wp2_with fail
        go_end0
        exact ⟨rfl, by rw [HE.out.1, HE.out.2]; exact hb.drewN _⟩
    · have dm : decide (0 < m) = false := by simpa using hm
      have HE : Hid (K = k ∧ C = ck) := ht.stop (by omega)
      clear h'
      go_wp2_with fail
      go_quiet (fail)
      go_wp2_with fail
      go_end0
      exact ⟨rfl, by rw [HE.out.1, HE.out.2]; exact hb.drewN _⟩
end Go.Proofs.Qxb6001283a
