/-
  The cursor in memory; THE WALKS of 'at' (33), 'spaceOrTab' (41), 'zzSpaceOrTab' (28).
-/
import Derived.Test.Qxb6001283aRows
import Derived.Test.Qxb6001283aPlain
import Derived.WalkKit
import Derived.ProofKit
import Derived.OpenShut
import Derived.ShutString
import Derived.WalkLawsBesides
import Derived.WalkSpells
import Derived.BigQuiet
import Derived.Deep.QuietTactic
namespace Go.Proofs.Qxb6001283a
open Go.ChangeShapes Go.WideShapes Go.ChangeAt Go.RowKit

/-- A cursor at block c over the bytes 'Z 0' .. 'Z (len - 1)', its tail at block t. -/
structure Cur (w : World) (c t : Nat) (ao : Option Addr) (len cap : Nat) (nb : Bool) (Z : Nat → Int) (pos col fns fc ind : Int) (bl : Bool) : Prop where
  blk : w.heap[c]? = some (.cells #[.slice ao len cap, .pointer (some ⟨t, 0, none⟩), .int .i64 pos, .int .i64 col, .int .i64 fns, .int .i64 fc, .int .i64 ind, .bool bl] 45 (0, 0))
  tail : w.cell? ⟨t, 6, none⟩ = some (.bool nb)
  tne : t ≠ c
  row : 0 < len → ∃ b off, ao = some ⟨b, off, none⟩ ∧ b ≠ c ∧ ∀ j, j < len → w.cell? ⟨b, off + j, none⟩ = some (.int .u8 (Z j))

section
variable {w : World} {c t : Nat} {ao : Option Addr} {len cap : Nat} {nb : Bool} {Z : Nat → Int} {pos col fns fc ind : Int} {bl : Bool}
theorem Cur.cell (h : Cur w c t ao len cap nb Z pos col fns fc ind bl) (j : Nat) : w.cell? ⟨c, j, none⟩ = (#[.slice ao len cap, .pointer (some ⟨t, 0, none⟩), .int .i64 pos, .int .i64 col, .int .i64 fns, .int .i64 fc, .int .i64 ind, .bool bl] : Array Value)[j]? :=
  cell_of_row w c j _ 45 (0, 0) h.blk
theorem Cur.c0 (h : Cur w c t ao len cap nb Z pos col fns fc ind bl) : w.cell? ⟨c, 0, none⟩ = some (.slice ao len cap) := h.cell 0
theorem Cur.c1 (h : Cur w c t ao len cap nb Z pos col fns fc ind bl) : w.cell? ⟨c, 1, none⟩ = some (.pointer (some ⟨t, 0, none⟩)) := h.cell 1
theorem Cur.c2 (h : Cur w c t ao len cap nb Z pos col fns fc ind bl) : w.cell? ⟨c, 2, none⟩ = some (.int .i64 pos) := h.cell 2
theorem Cur.c3 (h : Cur w c t ao len cap nb Z pos col fns fc ind bl) : w.cell? ⟨c, 3, none⟩ = some (.int .i64 col) := h.cell 3
theorem Cur.c4 (h : Cur w c t ao len cap nb Z pos col fns fc ind bl) : w.cell? ⟨c, 4, none⟩ = some (.int .i64 fns) := h.cell 4
theorem Cur.c5 (h : Cur w c t ao len cap nb Z pos col fns fc ind bl) : w.cell? ⟨c, 5, none⟩ = some (.int .i64 fc) := h.cell 5
theorem Cur.c6 (h : Cur w c t ao len cap nb Z pos col fns fc ind bl) : w.cell? ⟨c, 6, none⟩ = some (.int .i64 ind) := h.cell 6
theorem Cur.c7 (h : Cur w c t ao len cap nb Z pos col fns fc ind bl) : w.cell? ⟨c, 7, none⟩ = some (.bool bl) := h.cell 7
theorem Cur.free (h : Cur w c t ao len cap nb Z pos col fns fc ind bl) (j : Nat) : w.frozen? ⟨c, j, none⟩ = false := frozen_of_row w c j _ 45 h.blk
theorem Cur.drewN (h : Cur w c t ao len cap nb Z pos col fns fc ind bl) (q : Nat) : Cur (w.drewN q) c t ao len cap nb Z pos col fns fc ind bl := ⟨h.blk, h.tail, h.tne, h.row⟩
theorem Cur.lt (h : Cur w c t ao len cap nb Z pos col fns fc ind bl) : c < w.heap.size := by
  rcases Nat.lt_or_ge c w.heap.size with h' | h'
  · exact h'
  · have := h.blk; simp [Array.getElem?_eq_none h'] at this

/-- A store into field j of the cursor. -/
theorem cur_store {cs : Array Value} (hb : w.heap[c]? = some (.cells cs 45 (0, 0))) (j : Nat) (v : Value) : (w.setCell ⟨c, j, none⟩ v).heap[c]? = some (.cells (cs.setIfInBounds j v) 45 (0, 0)) :=
  heap_setCell_same w c j cs 45 v hb
end

/-- Block c of w' holds cs; all other blocks are as w has them. -/
structure Blk (w w' : World) (c : Nat) (cs : Array Value) : Prop where
  blk : w'.heap[c]? = some (.cells cs 45 (0, 0))
  grown : w.grownBy w' (some c)
theorem Blk.set {w w' : World} {c : Nat} {cs : Array Value} (h : Blk w w' c cs) (j : Nat) (v : Value) : Blk w (w'.setCell ⟨c, j, none⟩ v) c (cs.setIfInBounds j v) := by
  refine ⟨cur_store h.blk j v, h.grown.os, h.grown.tape, h.grown.output, ?_, fun k hk hne => ?_⟩
  · have := h.grown.size
    simp
    exact this
  · exact (heap_setCell_other w' ⟨c, j, none⟩ k v (fun e => hne (congrArg some e))).trans (h.grown.block k hk hne)
theorem Blk.drewN {w w' : World} {c : Nat} {cs : Array Value} (h : Blk w w' c cs) (q : Nat) : Blk w (w'.drewN q) c cs := ⟨h.blk, h.grown.os, h.grown.tape, h.grown.output, h.grown.size, h.grown.block⟩
theorem Blk.then {w w' w'' : World} {c : Nat} {cs cs' : Array Value} (h : Blk w w' c cs) (k : Blk w' w'' c cs') : Blk w w'' c cs' :=
  ⟨k.blk, k.grown.os.trans h.grown.os, k.grown.tape.trans h.grown.tape, k.grown.output.trans h.grown.output, Nat.le_trans h.grown.size k.grown.size, fun j hj hne => (k.grown.block j (Nat.lt_of_lt_of_le hj h.grown.size) hne).trans (h.grown.block j hj hne)⟩

section
variable {w w' : World} {c t : Nat} {ao : Option Addr} {len cap : Nat} {nb : Bool} {Z : Nat → Int} {pos col fns fc ind pos' col' fns' fc' ind' : Int} {bl bl' : Bool}
theorem Cur.start (h : Cur w c t ao len cap nb Z pos col fns fc ind bl) : Blk w w c #[.slice ao len cap, .pointer (some ⟨t, 0, none⟩), .int .i64 pos, .int .i64 col, .int .i64 fns, .int .i64 fc, .int .i64 ind, .bool bl] :=
  ⟨h.blk, World.grownBy.refl _ _⟩
/-- The cursor behind whatever has been done to its own block alone. -/
theorem Cur.moved (h : Cur w c t ao len cap nb Z pos col fns fc ind bl) (k : Blk w w' c #[.slice ao len cap, .pointer (some ⟨t, 0, none⟩), .int .i64 pos', .int .i64 col', .int .i64 fns', .int .i64 fc', .int .i64 ind', .bool bl']) :
    Cur w' c t ao len cap nb Z pos' col' fns' fc' ind' bl' := by
  refine ⟨k.blk, k.grown.cell h.tail (fun e => h.tne (Option.some.inj e)), h.tne, fun hl => ?_⟩
  obtain ⟨b, off, e, hne, hc⟩ := h.row hl
  exact ⟨b, off, e, hne, fun j hj => k.grown.cell (hc j hj) (fun e => hne (Option.some.inj e))⟩
end

theorem wrap_id {x : Int} (h1 : -9223372036854775808 ≤ x) (h2 : x ≤ 9223372036854775807) : IntKind.i64.wrap x = x := by
  simp [IntKind.wrap, IntKind.bits, IntKind.signed]
  omega

theorem ret_int {k : IntKind} {a b : Int} (h : a = b) : Ending.returned (.int k a) = .returned (.int k b) := by rw [h]
theorem ret_bool {a b : Bool} (h : a = b) : Ending.returned (.bool a) = .returned (.bool b) := by rw [h]

set_option maxHeartbeats 400000 in
theorem at_any (w : World) (c t : Nat) (ao : Option Addr) (len cap : Nat) (nb : Bool) (Z : Nat → Int) (pos col fns fc ind : Int) (bl : Bool) (h : Cur w c t ao len cap nb Z pos col fns fc ind bl) (i : Int) (k : Nat) (hi : i = (k : Int)) :
    Calls Try.prog 33 #[.pointer (some ⟨c, 0, none⟩), .int .i64 i] w fun e w' => e = .returned (.int .u8 (atv Z len nb k)) ∧ w' = w := by
  subst hi
  have h0 := h.c0
  have h1 := h.c1
  have h6 := h.tail
  by_cases hlt : k < len
  · obtain ⟨b, off, rfl, _, hc⟩ := h.row (by omega)
    have hcx := hc k hlt
    have i1 : (k : Int) < (len : Int) := by omega
    have A : Hid (atv Z len nb k = Z k) := atv_in hlt
    clear hc h
    go_enter Try.func33, Try.ntmps33
    go_wp2
    go_ret
    exact ⟨ret_int A.out.symm, rfl⟩
  · have i1 : ¬ (k : Int) < (len : Int) := by omega
    have A : Hid (atv Z len nb k = if nb = true then 255 else 0) := atv_out hlt
    clear h
    cases nb with
    | true =>
      go_enter Try.func33, Try.ntmps33
      go_wp2
      go_ret
      exact ⟨ret_int (by rw [A.out]; rfl), rfl⟩
    | false =>
      go_enter Try.func33, Try.ntmps33
      go_wp2
      go_ret
      exact ⟨ret_int (by rw [A.out]; rfl), rfl⟩

set_option maxHeartbeats 400000 in
theorem sot41 (z : Int) (w : World) : Calls Try.prog 41 #[.int .u8 z] w fun e w' => e = .returned (.bool (ws z)) ∧ w' = w := by
  by_cases h1 : (z == 32) = true
  · have A : Hid (ws z = true) := ws_space h1
    go_enter Try.func41, Try.ntmps41
    go_wp2
    go_ret
    exact ⟨ret_bool A.out.symm, rfl⟩
  · have h1' : (z == 32) = false := by simpa using h1
    clear h1
    by_cases h2 : (z == 9) = true
    · have A : Hid (ws z = true) := ws_tab h2
      go_enter Try.func41, Try.ntmps41
      go_wp2
      go_ret
      exact ⟨ret_bool A.out.symm, rfl⟩
    · have h2' : (z == 9) = false := by simpa using h2
      clear h2
      have A : Hid (ws z = false) := ws_no h1' h2'
      go_enter Try.func41, Try.ntmps41
      go_wp2
      go_ret
      exact ⟨ret_bool A.out.symm, rfl⟩
set_option maxHeartbeats 400000 in
theorem sot28 (z : Int) (w : World) : Calls Try.prog 28 #[.int .u8 z] w fun e w' => e = .returned (.bool (ws z)) ∧ w' = w := by
  by_cases h1 : (z == 32) = true
  · have A : Hid (ws z = true) := ws_space h1
    go_enter Try.func28, Try.ntmps28
    go_wp2
    go_ret
    exact ⟨ret_bool A.out.symm, rfl⟩
  · have h1' : (z == 32) = false := by simpa using h1
    clear h1
    by_cases h2 : (z == 9) = true
    · have A : Hid (ws z = true) := ws_tab h2
      go_enter Try.func28, Try.ntmps28
      go_wp2
      go_ret
      exact ⟨ret_bool A.out.symm, rfl⟩
    · have h2' : (z == 9) = false := by simpa using h2
      clear h2
      have A : Hid (ws z = false) := ws_no h1' h2'
      go_enter Try.func28, Try.ntmps28
      go_wp2
      go_ret
      exact ⟨ret_bool A.out.symm, rfl⟩
end Go.Proofs.Qxb6001283a
