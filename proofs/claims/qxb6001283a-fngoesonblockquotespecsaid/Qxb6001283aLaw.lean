/-
  THE WALKS of 'zzClone' (13), of the bound (27) and of the law 'FnGoesOnBlockQuoteSpec' (10).
-/
import Derived.Test.Qxb6001283aZz
namespace Go.Proofs.Qxb6001283a
open Go.ChangeShapes Go.WideShapes Go.ChangeAt Go.RowKit

theorem info5 : (Try.prog.info? 5).map (fun i => (i.zero, i.size, i.bytes)) = some (some (.int .u8 0), 1, 1) := by kernel_rfl

/-- What the copying loop carries: the new row, its first k cells. -/
structure Cop (w wr : World) (n k : Nat) (Z : Nat → Int) (xs : List Value) : Prop where
  own : wr.ownsRow w.heap.size 5 1 (.slice (some ⟨w.heap.size, 0, none⟩) n n) n xs
  vals : ∀ j, j < k → xs[j]? = some (.int .u8 (Z j))
  below : Below w.heap.size w wr
theorem Cop.held {w wr : World} {n k : Nat} {Z : Nat → Int} {xs : List Value} (h : Cop w wr n k Z xs) (hk : k < n) : ∃ v, wr.cell? ⟨w.heap.size, k, none⟩ = some v := by
  have h1 := h.own.cellAt k (by omega)
  have h2 := h.own.1
  rw [List.getElem?_eq_getElem (by omega)] at h1
  exact ⟨_, h1⟩
theorem Cop.put {w wr : World} {n k : Nat} {Z : Nat → Int} {xs : List Value} (h : Cop w wr n k Z xs) (hk : k < n) :
    Cop w (wr.setCell ⟨w.heap.size, k, none⟩ (.int .u8 (Z k))) n (k + 1) Z (xs.set k (.int .u8 (Z k))) := by
  have h2 := h.own.1
  refine ⟨(h.own.stored k _).1, ?_, h.below.setCell (Nat.le_refl _) _⟩
  intro j hj
  by_cases e : j = k
  · subst e
    rw [List.getElem?_set_self (by omega)]
  · rw [List.getElem?_set_ne (by omega)]
    exact h.vals j (by omega)
theorem Cop.row {w wr : World} {n : Nat} {Z : Nat → Int} {xs : List Value} (h : Cop w wr n n Z xs) : RowB wr (some ⟨w.heap.size, 0, none⟩) n Z := by
  intro _
  refine ⟨w.heap.size, 0, rfl, (h.own.lt w.heap.size rfl).2, fun j hj => ?_⟩
  rw [Nat.zero_add, h.own.cellAt j (by omega)]
  exact h.vals j hj

set_option maxHeartbeats 800000 in
set_option maxRecDepth 100000 in
theorem clone_nil (w : World) :
    Calls Try.prog 13 #[.slice none 0 0] w fun e w' => e = .returned (.slice none 0 0) ∧ w' = w := by
  have hq := fun wx => Lib.run_eql_slice_nil (P := Try.prog) wx 22 5 none 0 0 0 0 Try.underlying22
  go_enter Try.func13, Try.ntmps13
  go_wp2
  go_ret
  exact ⟨rfl, rfl⟩

set_option maxHeartbeats 800000 in
set_option maxRecDepth 100000 in
theorem clone_some (Z : Nat → Int) (a : Addr) (n cap : Nat) (w : World) (hrow : RowB w (some a) n Z) (hn : n ≤ 1048576) :
    Calls Try.prog 13 #[.slice (some a) n cap] w fun e w' => e = .returned (.slice (some ⟨w.heap.size, 0, none⟩) n n) ∧ RowB w' (some ⟨w.heap.size, 0, none⟩) n Z ∧ Below w.heap.size w w' := by
  obtain ⟨i0, hi, hz0, hz1, hz2⟩ := info_parts info5
  have hq := fun wx => Lib.run_eql_slice_nil (P := Try.prog) wx 22 5 (some a) n cap 0 0 Try.underlying22
  go_enter Try.func13, Try.ntmps13
  go_wp2_with (at_make; refine wpList_make_full _ rfl _ _ 22 rfl w.heap.size 5 i0 (.int .u8 0) 1 Try.underlying22 hi hz0 hz1 _ _ _ _ n rfl rfl rfl rfl ?b2 ?b3 (Nat.le_refl _) ?_)
  case b2 => rw [hz2]; omega
  case b3 => unfold maxLen; omega
  intro w0 hown0 hgrow0
  clear hq
  go_wp2
  go_loopw [4] (fun i wr => ∃ (k : Nat) (xs : List Value), k ≤ n ∧ i = .int .i64 k ∧ Cop w wr n k Z xs) (fun i _ => n - (intOf i).toNat)
  case atStart => exact ⟨0, _, Nat.zero_le _, rfl, hown0, fun j hj => by omega, (Below.refl _ _).grown hgrow0 (Nat.le_refl _) (fun k h => by cases h)⟩
  case round =>
    obtain ⟨k, xs, hk, rfl, hcop⟩ := hrel
    by_cases hlt : k < n
    · obtain ⟨b, off, hae, hbl, hc⟩ := hrow (by omega)
      have hae' : a = ⟨b, off, none⟩ := Option.some.inj hae
      subst hae'
      have hcx : wr.cell? ⟨b, off + k, none⟩ = some (.int .u8 (Z k)) := (hcop.below.cell (p := ⟨b, off + k, none⟩) hbl).trans (hc k hlt)
      obtain ⟨v0, hv0⟩ := hcop.held hlt
      have hfr := hcop.own.frozenAt k
      have NX := hcop.put hlt
      clear hc hrow hae hcop
      have i1 : (k : Int) < (n : Int) := by omega
      go_wp2
      go_roundw
      case rel => exact ⟨k + 1, _, by omega, by go_num, NX⟩
      case measure => simp [intOf]; omega
    · have i1 : ¬ (k : Int) < (n : Int) := by omega
      have hk' : k = n := by omega
      subst hk'
      go_wp2
      go_ret
      exact ⟨rfl, hcop.row, hcop.below⟩

/-- 'zzClone': a slice of as many bytes, the same ones. -/
theorem clone_any (Z : Nat → Int) (ao : Option Addr) (n cap : Nat) (w : World) (h0 : ao = none → n = 0 ∧ cap = 0) (hrow : RowB w ao n Z) (hn : n ≤ 1048576) :
    Calls Try.prog 13 #[.slice ao n cap] w fun e w' => ∃ ao' cap', e = .returned (.slice ao' n cap') ∧ RowB w' ao' n Z ∧ Below w.heap.size w w' := by
  cases ao with
  | none =>
    obtain ⟨rfl, rfl⟩ := h0 rfl
    refine (clone_nil w).mono ?_
    rintro e w' ⟨rfl, rfl⟩
    exact ⟨none, 0, rfl, fun h => by omega, Below.refl _ _⟩
  | some a =>
    refine (clone_some Z a n cap w hrow hn).mono ?_
    rintro e w' ⟨rfl, h1, h2⟩
    exact ⟨_, _, rfl, h1, h2⟩

set_option maxHeartbeats 400000 in
theorem bytes_yes (ao : Option Addr) (n cap : Nat) (nb : Bool) (p c : Int) (w : World) (hs : n ≤ 1048576) :
    Calls Try.prog 27 #[.slice ao n cap, .bool nb, .int .i64 p, .int .i64 c] w fun e w' => e = .returned (.bool true) ∧ w' = w := by
  have h1 : ¬ (1048576 : Int) < (n : Int) := by omega
  go_enter Try.func27, Try.ntmps27
  go_wp2
  go_ret
  exact ⟨rfl, rfl⟩
set_option maxHeartbeats 400000 in
theorem bytes_no (ao : Option Addr) (n cap : Nat) (nb : Bool) (p c : Int) (w : World) (hs : 1048576 < n) :
    Calls Try.prog 27 #[.slice ao n cap, .bool nb, .int .i64 p, .int .i64 c] w fun e w' => e = .returned (.bool false) ∧ w' = w := by
  have h1 : (1048576 : Int) < (n : Int) := by omega
  go_enter Try.func27, Try.ntmps27
  go_wp2
  go_ret
  exact ⟨rfl, rfl⟩
end Go.Proofs.Qxb6001283a
