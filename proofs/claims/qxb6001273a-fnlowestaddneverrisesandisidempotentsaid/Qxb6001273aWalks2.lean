/-
  THE WALKS of 'foldLowest' (9), 'cloneKeys' (8), 'keysBytes' (7), the bounds (6, 13).
-/
import Derived.Test.Qxb6001273aWalks
namespace Go.Proofs.Qxb6001273a
open Go.ChangeShapes Go.WideShapes Go.ChangeAt Go.RowKit

theorem info9 : (Try.prog.info? 9).map (fun i => (i.zero, i.size, i.bytes)) = some (some (.string ⟨#[]⟩), 1, 16) := by kernel_rfl

/-- The n strings that a slice at 'ao' shows: 'S 0' .. -/
def RowS (w : World) (ao : Option Addr) (n : Nat) (S : Nat → ByteArray) : Prop :=
  0 < n → ∃ b off, ao = some ⟨b, off, none⟩ ∧ b < w.heap.size ∧ ∀ j, j < n → w.cell? ⟨b, off + j, none⟩ = some (.string (S j))
theorem RowS.below {w w' : World} {ao : Option Addr} {n : Nat} {S : Nat → ByteArray} (h : RowS w ao n S) (hb : Below w.heap.size w w') : RowS w' ao n S := by
  intro hn
  obtain ⟨b, off, e, hlt, hc⟩ := h hn
  exact ⟨b, off, e, Nat.lt_of_lt_of_le hlt hb.size, fun j hj => (hb.cell (p := ⟨b, off + j, none⟩) hlt).trans (hc j hj)⟩

set_option maxHeartbeats 800000 in
set_option maxRecDepth 100000 in
theorem fold_any (S : Nat → ByteArray) (ao : Option Addr) (n cap : Nat) (key : ByteArray) (has : Bool) (w : World) (hrow : RowS w ao n S) (hn : n ≤ 65536) :
    Calls Try.prog 9 #[.string key, .bool has, .slice ao n cap, .int .i64 0, .int .i64 n] w fun e w' =>
      e = .returned (.tuple #[.string (fold S (key, has) n).1, .bool (fold S (key, has) n).2]) ∧ Below w.heap.size w w' := by
  go_enter Try.func9, Try.ntmps9
  go_wp2
  go_loopw [0, 1, 12] (fun ks hs i wr => ∃ k : Nat, k ≤ n ∧ ks = .string (fold S (key, has) k).1 ∧ hs = .bool (fold S (key, has) k).2 ∧ i = .int .i64 k ∧ Below w.heap.size w wr) (fun _ _ i _ => n - (intOf i).toNat)
  case atStart => exact ⟨0, Nat.zero_le _, rfl, rfl, rfl, Below.refl _ _⟩
  case round =>
    obtain ⟨k, hk, rfl, rfl, rfl, hbw⟩ := hrel
    by_cases hlt : k < n
    · obtain ⟨b, off, rfl, hbl, hc⟩ := hrow (by omega)
      have hcx : wr.cell? ⟨b, off + k, none⟩ = some (.string (S k)) := (hbw.cell (p := ⟨b, off + k, none⟩) hbl).trans (hc k hlt)
      clear hc hrow
      have i1 : (k : Int) < (n : Int) := by omega
      go_wp2_with (go_at_call 14; refine (add_any _ _ _ _).mono ?_; rintro e w1 ⟨rfl, hb1⟩)
      go_roundw
      case rel => exact ⟨k + 1, by omega, rfl, rfl, by go_num, hbw.trans (hb1.mono hbw.size)⟩
      case measure => simp [intOf]; omega
    · have i1 : ¬ (k : Int) < (n : Int) := by omega
      have hk' : k = n := by omega
      subst hk'
      go_wp2
      go_ret2
      exact ⟨rfl, hbw⟩

/-- What the copying loop carries: the new row, its first k cells. -/
structure Cop (w wr : World) (n k : Nat) (S : Nat → ByteArray) (xs : List Value) : Prop where
  own : wr.ownsRow w.heap.size 9 1 (.slice (some ⟨w.heap.size, 0, none⟩) n n) n xs
  vals : ∀ j, j < k → xs[j]? = some (.string (S j))
  below : Below w.heap.size w wr
theorem Cop.at {w wr : World} {n k : Nat} {S : Nat → ByteArray} {xs : List Value} (h : Cop w wr n k S xs) (hk : k < n) : ∃ v, wr.cell? ⟨w.heap.size, k, none⟩ = some v := by
  have h1 := h.own.cellAt k (by omega)
  have h2 := h.own.1
  rw [List.getElem?_eq_getElem (by omega)] at h1
  exact ⟨_, h1⟩
theorem Cop.put {w wr : World} {n k : Nat} {S : Nat → ByteArray} {xs : List Value} (h : Cop w wr n k S xs) (hk : k < n) :
    Cop w (wr.setCell ⟨w.heap.size, k, none⟩ (.string (S k))) n (k + 1) S (xs.set k (.string (S k))) := by
  have h2 := h.own.1
  refine ⟨(h.own.stored k _).1, ?_, h.below.setCell (Nat.le_refl _) _⟩
  intro j hj
  by_cases e : j = k
  · subst e
    rw [List.getElem?_set_self (by omega)]
  · rw [List.getElem?_set_ne (by omega)]
    exact h.vals j (by omega)
theorem Cop.row {w wr : World} {n : Nat} {S : Nat → ByteArray} {xs : List Value} (h : Cop w wr n n S xs) : RowS wr (some ⟨w.heap.size, 0, none⟩) n S := by
  intro _
  refine ⟨w.heap.size, 0, rfl, (h.own.lt w.heap.size rfl).2, fun j hj => ?_⟩
  rw [Nat.zero_add, h.own.cellAt j (by omega)]
  exact h.vals j hj

set_option maxHeartbeats 800000 in
set_option maxRecDepth 100000 in
theorem clone_nil (w : World) :
    Calls Try.prog 8 #[.slice none 0 0] w fun e w' => e = .returned (.slice none 0 0) ∧ w' = w := by
  have hq := fun wx => Lib.run_eql_slice_nil (P := Try.prog) wx 22 9 none 0 0 0 0 Try.underlying22
  go_enter Try.func8, Try.ntmps8
  go_wp2
  go_ret
  exact ⟨rfl, rfl⟩

set_option maxHeartbeats 800000 in
set_option maxRecDepth 100000 in
theorem clone_some (S : Nat → ByteArray) (a : Addr) (n cap : Nat) (w : World) (hrow : RowS w (some a) n S) (hn : n ≤ 65536) :
    Calls Try.prog 8 #[.slice (some a) n cap] w fun e w' => e = .returned (.slice (some ⟨w.heap.size, 0, none⟩) n n) ∧ RowS w' (some ⟨w.heap.size, 0, none⟩) n S ∧ Below w.heap.size w w' := by
  obtain ⟨i0, hi, hz0, hz1, hz2⟩ := info_parts info9
  have hq := fun wx => Lib.run_eql_slice_nil (P := Try.prog) wx 22 9 (some a) n cap 0 0 Try.underlying22
  go_enter Try.func8, Try.ntmps8
  go_wp2_with (at_make; refine wpList_make_full _ rfl _ _ 22 rfl w.heap.size 9 i0 (.string ⟨#[]⟩) 1 Try.underlying22 hi hz0 hz1 _ _ _ _ n rfl rfl rfl rfl ?b2 ?b3 (Nat.le_refl _) ?_)
  case b2 => rw [hz2]; omega
  case b3 => unfold maxLen; omega
  intro w0 hown0 hgrow0
  clear hq
  go_wp2
  go_loopw [4] (fun i wr => ∃ (k : Nat) (xs : List Value), k ≤ n ∧ i = .int .i64 k ∧ Cop w wr n k S xs) (fun i _ => n - (intOf i).toNat)
  case atStart => exact ⟨0, _, Nat.zero_le _, rfl, hown0, fun j hj => by omega, (Below.refl _ _).grown hgrow0 (Nat.le_refl _) (fun k h => by cases h)⟩
  case round =>
    obtain ⟨k, xs, hk, rfl, hcop⟩ := hrel
    by_cases hlt : k < n
    · obtain ⟨b, off, hae, hbl, hc⟩ := hrow (by omega)
      have hae' : a = ⟨b, off, none⟩ := Option.some.inj hae
      subst hae'
      have hcx : wr.cell? ⟨b, off + k, none⟩ = some (.string (S k)) := (hcop.below.cell (p := ⟨b, off + k, none⟩) hbl).trans (hc k hlt)
      obtain ⟨v0, hv0⟩ := hcop.at hlt
      have hfr := hcop.own.frozenAt k
      have NX := hcop.put hlt
      clear hc hrow hae hcop
      have i1 : (k : Int) < (n : Int) := by omega
      go_wp2
      go_roundw
      case rel => exact ⟨k + 1, _, by omega, by go_num, NX⟩
      case measure => simp [intOf]; omega
    · have i1 : ¬ (k : Int) < (n : Int) := by omega
      have hk' : k = n := by omega
      subst hk'
      go_wp2
      go_ret
      exact ⟨rfl, hcop.row, hcop.below⟩

/-- 'cloneKeys': a slice of as many strings, the same ones. -/
theorem clone_any (S : Nat → ByteArray) (ao : Option Addr) (n cap : Nat) (w : World) (h0 : ao = none → n = 0 ∧ cap = 0) (hrow : RowS w ao n S) (hn : n ≤ 65536) :
    Calls Try.prog 8 #[.slice ao n cap] w fun e w' => ∃ ao' cap', e = .returned (.slice ao' n cap') ∧ RowS w' ao' n S ∧ Below w.heap.size w w' := by
  cases ao with
  | none =>
    obtain ⟨rfl, rfl⟩ := h0 rfl
    refine (clone_nil w).mono ?_
    rintro e w' ⟨rfl, rfl⟩
    exact ⟨none, 0, rfl, fun h => by omega, Below.refl _ _⟩
  | some a =>
    refine (clone_some S a n cap w hrow hn).mono ?_
    rintro e w' ⟨rfl, h1, h2⟩
    exact ⟨_, _, rfl, h1, h2⟩
end Go.Proofs.Qxb6001273a
