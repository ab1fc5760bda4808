/-
  THE WALK of 'goesOn' (32) at a block quote.
-/
import Derived.Test.Qxb6001283aNonspace
import Derived.Test.Qxb6001283aAdvance
namespace Go.Proofs.Qxb6001283a
open Go.ChangeShapes Go.WideShapes Go.ChangeAt Go.RowKit

section
variable (w : World) (c t bk : Nat) (ao : Option Addr) (len cap : Nat) (nb : Bool) (Z : Nat → Int) (p : Nat) (col fns fc ind : Int) (bl : Bool) (E : Nat) (C : Int)

theorem nonspace_cur (h : Cur w c t ao len cap nb Z (p : Int) col fns fc ind bl) (hp : p ≤ len) (hc0 : 0 ≤ col) (hc1 : col ≤ 1073741824) (hl : len ≤ 1048576) (hat : At Z len p col E C) :
    Calls Try.prog 39 #[.pointer (some ⟨c, 0, none⟩)] w fun e w' => e = .returned (.tuple #[]) ∧ Blk w w' c (cur ao len cap t (p : Int) col (E : Int) C (C - col) (atv Z len nb E == 0)) :=
  nonspace_any w c t ao len cap nb Z p col fns fc ind bl E C h hp hc0 hc1 hl hat

set_option maxHeartbeats 800000 in
set_option maxRecDepth 100000 in
theorem goes_no (h : Cur w c t ao len cap nb Z (p : Int) col fns fc ind bl) (hbk : w.cell? ⟨bk, 0, none⟩ = some (.int .u8 1)) (hne : bk ≠ c) (hp : p ≤ len) (hc0 : 0 ≤ col) (hc1 : col ≤ 1073741824) (hl : len ≤ 1048576) (hat : At Z len p col E C)
    (hno : 3 < C - col ∨ (atv Z len nb E == 62) = false) :
    Calls Try.prog 32 #[.pointer (some ⟨c, 0, none⟩), .pointer (some ⟨bk, 0, none⟩)] w fun e w' => e = .returned (.bool false) ∧ Blk w w' c (cur ao len cap t (p : Int) col (E : Int) C (C - col) (atv Z len nb E == 0)) := by
  go_enter Try.func32, Try.ntmps32
  go_wp2_with fail
  refine (nonspace_cur w c t ao len cap nb Z p col fns fc ind bl E C h hp hc0 hc1 hl hat).mono ?_
  rintro e w1 ⟨rfl, hb1⟩
  have h1 : Cur w1 c t ao len cap nb Z (p : Int) col (E : Int) C (C - col) (atv Z len nb E == 0) := h.moved hb1
  have hk1 : w1.cell? ⟨bk, 0, none⟩ = some (.int .u8 1) := hb1.grown.cell hbk (fun e => hne (Option.some.inj e))
  have q4 := h1.c4
  have q6 := h1.c6
  by_cases hi : 3 < C - col
  · go_wp2_with fail
    go_ret
    exact ⟨rfl, hb1⟩
  · have hz : (atv Z len nb E == 62) = false := by
      rcases hno with h | h
      · exact absurd h hi
      · exact h
    have hz' : (atv Z len nb E != 62) = true := by simpa [bne] using hz
    clear hno
    go_wp2_with fail
    refine (at_any w1 c t ao len cap nb Z _ _ _ _ _ _ h1 (E : Int) E rfl).mono ?_
    rintro e w2 ⟨rfl, rfl⟩
    go_wp2_with fail
    go_ret
    exact ⟨rfl, hb1⟩

set_option maxHeartbeats 1600000 in
set_option maxRecDepth 100000 in
/-- '>', and no space or tab behind it. -/
theorem goes_bare (h : Cur w c t ao len cap nb Z (p : Int) col fns fc ind bl) (hbk : w.cell? ⟨bk, 0, none⟩ = some (.int .u8 1)) (hne : bk ≠ c) (hp : p ≤ len) (hc0 : 0 ≤ col) (hc1 : col ≤ 1073741824) (hl : len ≤ 1048576) (hat : At Z len p col E C)
    (hi : C - col ≤ 3) (hE : E < len) (hz : (Z E == 62) = true) (hw : ws (atv Z len nb (E + 1)) = false) :
    Calls Try.prog 32 #[.pointer (some ⟨c, 0, none⟩), .pointer (some ⟨bk, 0, none⟩)] w fun e w' => e = .returned (.bool true) ∧ Blk w w' c (cur ao len cap t ((E + 1 : Nat) : Int) (C + 1) (E : Int) C (C - col) (atv Z len nb E == 0)) := by
  have hab := hat.bd hp hc0
  obtain ⟨K1, C1, hto⟩ := to_ex Z len p col (C - col + 1)
  have hq := to_quote hE (by rw [beq_iff_eq] at hz; rw [beq_eq_false_iff_ne]; omega) (E - p) p col rfl hab.1 hc0 hat (K := K1) (C' := C1) (by rw [show C + 1 - col = C - col + 1 from by omega]; exact hto)
  obtain ⟨rfl, rfl⟩ := hq
  have hzE : (atv Z len nb E != 62) = false := by rw [atv_in hE]; simpa [bne] using hz
  have hi' : ¬ 3 < C - col := by omega
  have b1 : (E : Int) ≤ 1048576 := by omega
  have b2 : 0 ≤ C := by omega
  have b3 : C ≤ 1073741824 + 4194304 := by omega
  have b4 : 0 ≤ C - col := by omega
  clear hz
  go_enter Try.func32, Try.ntmps32
  go_wp2_with fail
  refine (nonspace_cur w c t ao len cap nb Z p col fns fc ind bl E C h hp hc0 hc1 hl hat).mono ?_
  rintro e w1 ⟨rfl, hb1⟩
  have h1 : Cur w1 c t ao len cap nb Z (p : Int) col (E : Int) C (C - col) (atv Z len nb E == 0) := h.moved hb1
  have hk1 : w1.cell? ⟨bk, 0, none⟩ = some (.int .u8 1) := hb1.grown.cell hbk (fun e => hne (Option.some.inj e))
  have q4 := h1.c4
  have q6 := h1.c6
  go_wp2_with fail
  refine (at_any w1 c t ao len cap nb Z _ _ _ _ _ _ h1 (E : Int) E rfl).mono ?_
  rintro e w2 ⟨rfl, rfl⟩
  go_wp2_with fail
  refine (advance_any w2 c t ao len cap nb Z p col _ _ _ _ (C - col + 1) (E + 1) (C + 1) h1 hc0 (by omega) (by omega) hl hp hto).mono ?_
  rintro e w3 ⟨rfl, hb3⟩
  have h3 : Cur w3 c t ao len cap nb Z ((E + 1 : Nat) : Int) (C + 1) (E : Int) C (C - col) (atv Z len nb E == 0) := h1.moved hb3
  have r2 := h3.c2
  clear q4 q6 hk1
  go_wp2_with fail
  refine (at_any w3 c t ao len cap nb Z _ _ _ _ _ _ h3 ((E + 1 : Nat) : Int) (E + 1) rfl).mono ?_
  rintro e w4 ⟨rfl, rfl⟩
  go_wp2_with fail
  refine (sot41 _ _).mono ?_
  rintro e w5 ⟨rfl, rfl⟩
  rw [hw]
  go_wp2_with fail
  go_ret
  exact ⟨rfl, hb1.then hb3⟩

set_option maxHeartbeats 1600000 in
set_option maxRecDepth 100000 in
/-- '>', and a space or tab behind it. -/
theorem goes_more (h : Cur w c t ao len cap nb Z (p : Int) col fns fc ind bl) (hbk : w.cell? ⟨bk, 0, none⟩ = some (.int .u8 1)) (hne : bk ≠ c) (hp : p ≤ len) (hc0 : 0 ≤ col) (hc1 : col ≤ 1073741824) (hl : len ≤ 1048576) (hat : At Z len p col E C)
    (hi : C - col ≤ 3) (hE : E < len) (hz : (Z E == 62) = true) (hw : ws (atv Z len nb (E + 1)) = true) (hE1 : E + 1 ≤ len) (K2 : Nat) (C2 : Int) (hto2 : To Z len (E + 1) (C + 1) 1 K2 C2) :
    Calls Try.prog 32 #[.pointer (some ⟨c, 0, none⟩), .pointer (some ⟨bk, 0, none⟩)] w fun e w' => e = .returned (.bool true) ∧ Blk w w' c (cur ao len cap t (K2 : Int) C2 (E : Int) C (C - col) (atv Z len nb E == 0)) := by
  have hab := hat.bd hp hc0
  obtain ⟨K1, C1, hto⟩ := to_ex Z len p col (C - col + 1)
  have hq := to_quote hE (by rw [beq_iff_eq] at hz; rw [beq_eq_false_iff_ne]; omega) (E - p) p col rfl hab.1 hc0 hat (K := K1) (C' := C1) (by rw [show C + 1 - col = C - col + 1 from by omega]; exact hto)
  obtain ⟨rfl, rfl⟩ := hq
  have hzE : (atv Z len nb E != 62) = false := by rw [atv_in hE]; simpa [bne] using hz
  have hi' : ¬ 3 < C - col := by omega
  have b1 : (E : Int) ≤ 1048576 := by omega
  have b2 : 0 ≤ C := by omega
  have b3 : C ≤ 1073741824 + 4194304 := by omega
  have b4 : 0 ≤ C - col := by omega
  clear hz
  go_enter Try.func32, Try.ntmps32
  go_wp2_with fail
  refine (nonspace_cur w c t ao len cap nb Z p col fns fc ind bl E C h hp hc0 hc1 hl hat).mono ?_
  rintro e w1 ⟨rfl, hb1⟩
  have h1 : Cur w1 c t ao len cap nb Z (p : Int) col (E : Int) C (C - col) (atv Z len nb E == 0) := h.moved hb1
  have hk1 : w1.cell? ⟨bk, 0, none⟩ = some (.int .u8 1) := hb1.grown.cell hbk (fun e => hne (Option.some.inj e))
  have q4 := h1.c4
  have q6 := h1.c6
  go_wp2_with fail
  refine (at_any w1 c t ao len cap nb Z _ _ _ _ _ _ h1 (E : Int) E rfl).mono ?_
  rintro e w2 ⟨rfl, rfl⟩
  go_wp2_with fail
  refine (advance_any w2 c t ao len cap nb Z p col _ _ _ _ (C - col + 1) (E + 1) (C + 1) h1 hc0 (by omega) (by omega) hl hp hto).mono ?_
  rintro e w3 ⟨rfl, hb3⟩
  have h3 : Cur w3 c t ao len cap nb Z ((E + 1 : Nat) : Int) (C + 1) (E : Int) C (C - col) (atv Z len nb E == 0) := h1.moved hb3
  have r2 := h3.c2
  clear q4 q6 hk1
  go_wp2_with fail
  refine (at_any w3 c t ao len cap nb Z _ _ _ _ _ _ h3 ((E + 1 : Nat) : Int) (E + 1) rfl).mono ?_
  rintro e w4 ⟨rfl, rfl⟩
  go_wp2_with fail
  refine (sot41 _ _).mono ?_
  rintro e w5 ⟨rfl, rfl⟩
  rw [hw]
  go_wp2_with fail
  refine (advance_any _ c t ao len cap nb Z (E + 1) (C + 1) _ _ _ _ 1 K2 C2 h3 (by omega) (by omega) (by omega) hl hE1 hto2).mono ?_
  rintro e w6 ⟨rfl, hb6⟩
  go_wp2_with fail
  go_ret
  exact ⟨rfl, (hb1.then hb3).then hb6⟩
end
end Go.Proofs.Qxb6001283a
