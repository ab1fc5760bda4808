/-
  THE WALK of 'ZZGoesOn' (26) at a block quote.
-/
import Derived.Test.Qxb6001283aGoes
namespace Go.Proofs.Qxb6001283a
open Go.ChangeShapes Go.WideShapes Go.ChangeAt Go.RowKit

/-- The bytes that a slice shows. -/
def RowB (w : World) (ao : Option Addr) (len : Nat) (Z : Nat → Int) : Prop :=
  0 < len → ∃ b off, ao = some ⟨b, off, none⟩ ∧ b < w.heap.size ∧ ∀ j, j < len → w.cell? ⟨b, off + j, none⟩ = some (.int .u8 (Z j))
theorem RowB.below {w w' : World} {ao : Option Addr} {n : Nat} {Z : Nat → Int} (h : RowB w ao n Z) (hb : Below w.heap.size w w') : RowB w' ao n Z := by
  intro hn
  obtain ⟨b, off, e, hlt, hc⟩ := h hn
  exact ⟨b, off, e, Nat.lt_of_lt_of_le hlt hb.size, fun j hj => (hb.cell (p := ⟨b, off + j, none⟩) hlt).trans (hc j hj)⟩

/-- The three boxes: the tail's, the cursor's, the block's. -/
theorem boxes (w : World) (ao : Option Addr) (len cap : Nat) (nb : Bool) (Z : Nat → Int) (p col : Int) (cs1 cs3 : Array Value) (t1 t3 : TypeId) (h1 : cs1[6]? = some (.bool nb)) (h3 : cs3[0]? = some (.int .u8 1)) (hrow : RowB w ao len Z) :
    Cur (((w.alloc (.cells cs1 t1)).alloc (.cells #[.slice ao len cap, .pointer (some ⟨w.heap.size, 0, none⟩), .int .i64 p, .int .i64 col, .int .i64 0, .int .i64 0, .int .i64 0, .bool false] 45)).alloc (.cells cs3 t3)) (w.heap.size + 1) w.heap.size ao len cap nb Z p col 0 0 0 false ∧
    (((w.alloc (.cells cs1 t1)).alloc (.cells #[.slice ao len cap, .pointer (some ⟨w.heap.size, 0, none⟩), .int .i64 p, .int .i64 col, .int .i64 0, .int .i64 0, .int .i64 0, .bool false] 45)).alloc (.cells cs3 t3)).cell? ⟨w.heap.size + 1 + 1, 0, none⟩ = some (.int .u8 1) ∧
    Below w.heap.size w (((w.alloc (.cells cs1 t1)).alloc (.cells #[.slice ao len cap, .pointer (some ⟨w.heap.size, 0, none⟩), .int .i64 p, .int .i64 col, .int .i64 0, .int .i64 0, .int .i64 0, .bool false] 45)).alloc (.cells cs3 t3)) := by
  generalize ho2 : Obj.cells #[.slice ao len cap, .pointer (some ⟨w.heap.size, 0, none⟩), .int .i64 p, .int .i64 col, .int .i64 0, .int .i64 0, .int .i64 0, .bool false] 45 = o2
  generalize hA : w.alloc (.cells cs1 t1) = A
  generalize hB : A.alloc o2 = B
  have sA : A.heap.size = w.heap.size + 1 := by rw [← hA]; simp
  have sB : B.heap.size = w.heap.size + 1 + 1 := by rw [← hB]; simp [sA]
  have bA : Below w.heap.size w A := by rw [← hA]; exact (Below.refl _ _).alloc (Nat.le_refl _) _
  have bAB : Below A.heap.size A B := by rw [← hB]; exact (Below.refl _ _).alloc (Nat.le_refl _) _
  have bBC : Below B.heap.size B (B.alloc (.cells cs3 t3)) := (Below.refl _ _).alloc (Nat.le_refl _) _
  have bw : Below w.heap.size w (B.alloc (.cells cs3 t3)) := (bA.trans (bAB.mono (by omega))).trans (bBC.mono (by omega))
  have e1 : A.cell? ⟨w.heap.size, 6, none⟩ = some (.bool nb) := by rw [← hA, World.cell?_alloc_mark]; exact h1
  have e2 : B.heap[w.heap.size + 1]? = some o2 := by rw [← sA, ← hB]; show (A.heap.push o2)[A.heap.size]? = _; simp
  have e3 : (B.alloc (.cells cs3 t3)).cell? ⟨B.heap.size, 0, none⟩ = some (.int .u8 1) := by rw [World.cell?_alloc_mark]; exact h3
  refine ⟨⟨?_, ?_, by omega, ?_⟩, by rw [← sB]; exact e3, bw⟩
  · rw [bBC.block (w.heap.size + 1) (by omega), e2, ← ho2]
  · rw [bBC.cell (p := ⟨w.heap.size, 6, none⟩) (show w.heap.size < _ by omega), bAB.cell (p := ⟨w.heap.size, 6, none⟩) (show w.heap.size < _ by omega)]
    exact e1
  · intro hl
    obtain ⟨b, off, e, hlt, hc⟩ := hrow hl
    exact ⟨b, off, e, by omega, fun j hj => (bw.cell (p := ⟨b, off + j, none⟩) hlt).trans (hc j hj)⟩

theorem ret3 {a b : Bool} {x y u v : Int} (h1 : a = b) (h2 : x = y) (h3 : u = v) : Ending.returned (.tuple #[.bool a, .int .i64 x, .int .i64 u]) = .returned (.tuple #[.bool b, .int .i64 y, .int .i64 v]) := by rw [h1, h2, h3]

set_option maxHeartbeats 800000 in
set_option maxRecDepth 100000 in
/-- Whatever 'goesOn' answers at such a cursor and block. -/
theorem zz_of (w : World) (ao : Option Addr) (len cap : Nat) (nb : Bool) (Z : Nat → Int) (p col : Int) (hrow : RowB w ao len Z) (ok : Bool) (K C fns fc ind : Int) (bl : Bool)
    (G : ∀ (W : World) (c t bk : Nat), Cur W c t ao len cap nb Z p col 0 0 0 false → W.cell? ⟨bk, 0, none⟩ = some (.int .u8 1) → bk ≠ c →
      Calls Try.prog 32 #[.pointer (some ⟨c, 0, none⟩), .pointer (some ⟨bk, 0, none⟩)] W fun e w' => e = .returned (.bool ok) ∧ Blk W w' c (cur ao len cap t K C fns fc ind bl)) :
    Calls Try.prog 26 #[.slice ao len cap, .bool nb, .int .i64 p, .int .i64 col, .int .u8 1, .int .i64 0, .bool false, .int .i64 0] w fun e w' => e = .returned (.tuple #[.bool ok, .int .i64 K, .int .i64 C]) ∧ Below w.heap.size w w' := by
  have HG : Hid (∀ (W : World) (c t bk : Nat), Cur W c t ao len cap nb Z p col 0 0 0 false → W.cell? ⟨bk, 0, none⟩ = some (.int .u8 1) → bk ≠ c →
      Calls Try.prog 32 #[.pointer (some ⟨c, 0, none⟩), .pointer (some ⟨bk, 0, none⟩)] W fun e w' => e = .returned (.bool ok) ∧ Blk W w' c (cur ao len cap t K C fns fc ind bl)) := G
  clear G
  go_enter Try.func26, Try.ntmps26
  go_wp2_with fail
  have B := boxes w ao len cap nb Z p col #[.int .i64 0, .int .u8 0, .int .i64 0, .bool false, .bool false, .bool false, .bool nb, .bool false, .int .u8 0, .int .i64 0, .int .u8 0, .int .u8 0, .int .u8 0, .int .u8 0, .int .u8 0, .int .u8 0, .int .u8 0, .int .u8 0, .int .u8 0, .int .u8 0, .int .u8 0, .int .i64 0]
    #[.int .u8 1, .int .i64 0, .bool false, .int .u8 0, .int .i64 0, .int .i64 0, .string ⟨#[]⟩] 43 50 rfl rfl hrow
  refine (HG.out _ (w.heap.size + 1) w.heap.size (w.heap.size + 1 + 1) B.1 B.2.1 (by omega)).mono ?_
  rintro e w1 ⟨rfl, hb1⟩
  have h1 := B.1.moved hb1
  have q2 := h1.c2
  have q3 := h1.c3
  have hbel : Below w.heap.size w w1 := B.2.2.grown hb1.grown B.2.2.size (fun k hk => by cases hk; omega)
  clear B hb1 h1
  go_wp2_with fail
  go_quiet (fail)
  go_wp2_with fail
  go_ret3
  exact ⟨rfl, below_drewN hbel _⟩

section
variable (w : World) (ao : Option Addr) (len cap : Nat) (nb : Bool) (Z : Nat → Int) (p : Nat) (col : Int) (E : Nat) (C : Int)
theorem zz_no (hrow : RowB w ao len Z) (hp : p ≤ len) (hc0 : 0 ≤ col) (hc1 : col ≤ 1073741824) (hl : len ≤ 1048576) (hat : At Z len p col E C)
    (hno : 3 < C - col ∨ (atv Z len nb E == 62) = false) :
    Calls Try.prog 26 #[.slice ao len cap, .bool nb, .int .i64 p, .int .i64 col, .int .u8 1, .int .i64 0, .bool false, .int .i64 0] w fun e w' => e = .returned (.tuple #[.bool false, .int .i64 p, .int .i64 col]) ∧ Below w.heap.size w w' :=
  zz_of w ao len cap nb Z p col hrow false _ _ _ _ _ _ fun W c t bk h1 h2 h3 => goes_no W c t bk ao len cap nb Z p col 0 0 0 false E C h1 h2 h3 hp hc0 hc1 hl hat hno
theorem zz_bare (hrow : RowB w ao len Z) (hp : p ≤ len) (hc0 : 0 ≤ col) (hc1 : col ≤ 1073741824) (hl : len ≤ 1048576) (hat : At Z len p col E C)
    (hi : C - col ≤ 3) (hE : E < len) (hz : (Z E == 62) = true) (hw : ws (atv Z len nb (E + 1)) = false) :
    Calls Try.prog 26 #[.slice ao len cap, .bool nb, .int .i64 p, .int .i64 col, .int .u8 1, .int .i64 0, .bool false, .int .i64 0] w fun e w' => e = .returned (.tuple #[.bool true, .int .i64 ((E + 1 : Nat) : Int), .int .i64 (C + 1)]) ∧ Below w.heap.size w w' :=
  zz_of w ao len cap nb Z p col hrow true _ _ _ _ _ _ fun W c t bk h1 h2 h3 => goes_bare W c t bk ao len cap nb Z p col 0 0 0 false E C h1 h2 h3 hp hc0 hc1 hl hat hi hE hz hw
theorem zz_more (hrow : RowB w ao len Z) (hp : p ≤ len) (hc0 : 0 ≤ col) (hc1 : col ≤ 1073741824) (hl : len ≤ 1048576) (hat : At Z len p col E C)
    (hi : C - col ≤ 3) (hE : E < len) (hz : (Z E == 62) = true) (hE1 : E + 1 < len) (hw : ws (Z (E + 1)) = true) (K2 : Nat) (C2 : Int) (hto2 : To Z len (E + 1) (C + 1) 1 K2 C2) :
    Calls Try.prog 26 #[.slice ao len cap, .bool nb, .int .i64 p, .int .i64 col, .int .u8 1, .int .i64 0, .bool false, .int .i64 0] w fun e w' => e = .returned (.tuple #[.bool true, .int .i64 (K2 : Int), .int .i64 C2]) ∧ Below w.heap.size w w' :=
  zz_of w ao len cap nb Z p col hrow true _ _ _ _ _ _ fun W c t bk h1 h2 h3 => goes_more W c t bk ao len cap nb Z p col 0 0 0 false E C h1 h2 h3 hp hc0 hc1 hl hat hi hE hz (by rw [atv_in hE1]; exact hw) (by omega) K2 C2 hto2
end
end Go.Proofs.Qxb6001283a
