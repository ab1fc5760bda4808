/-
  THE WALK of 'unescapeFieldValue' (22) and of 'ZZunescapeFieldValue' (10).
-/
import Derived.Test.Qxb6001175aEscape
namespace Go.Proofs.Qxb6001175a
open Go.ChangeShapes Go.WideShapes Go.ChangeAt Go.RowKit

/-- '[]byte(v)': a new row that holds v's bytes. -/
theorem conv_bytes (w0 : World) (v : ByteArray) : ∃ cap w1, (convert 9 31 (.string v)).run Try.prog w0 = .ok (.slice (some ⟨w0.heap.size, 0, none⟩) v.size cap) w1 ∧ w0.grownBy w1 none ∧
    (∀ j (h : j < v.size), w1.cell? ⟨w0.heap.size, j, none⟩ = some (.int .u8 (v[j].toNat : Int))) := by
  refine ⟨_, _, run_bytes_of_string (P := Try.prog) w0 9 31 5 v Try.underlying9 Try.underlying31 Try.underlying5, ?_, ?_⟩
  · have h := World.grownBy_alloc w0.drew (.cells (bytesRow v (grownCap w0 v.size 0 5)) 5 ((bytesRow v (grownCap w0 v.size 0 5)).size, (bytesRow v (grownCap w0 v.size 0 5)).size + 1)) none
    exact ⟨h.os, h.tape, h.output, h.size, h.block⟩
  · intro j h
    have e := World.cell?_alloc_mark w0.drew (bytesRow v (grownCap w0 v.size 0 5)) 5 ((bytesRow v (grownCap w0 v.size 0 5)).size, (bytesRow v (grownCap w0 v.size 0 5)).size + 1) j
    rw [bytesRow_at v _ j h] at e
    exact e

/-- What the round carries of memory: the row that is built, the row that is read, what was there. -/
structure Inv (w wr : World) (v : ByteArray) (G n : Nat) (l : List UInt8) : Prop where
  own : wr.ownsRow w.heap.size 5 1 (.slice (some ⟨w.heap.size, 0, none⟩) n v.size) n (l.map vb)
  cell : ∀ j (h : j < v.size), wr.cell? ⟨G, j, none⟩ = some (.int .u8 (v[j].toNat : Int))
  ne : G ≠ w.heap.size
  below : Below w.heap.size w wr

theorem Inv.app {w wr w1 : World} {v : ByteArray} {G n : Nat} {l : List UInt8} {o1 : Obj} {c : UInt8} (h : Inv w wr v G n l) (g1 : (wr.alloc o1).grownBy w1 (some w.heap.size))
    (ho : w1.ownsRow w.heap.size 5 1 (.slice (some ⟨w.heap.size, 0, none⟩) (n + 1) v.size) (n + 1) (l.map vb ++ [.int .u8 (c.toNat : Int)])) : Inv w w1 v G (n + 1) (l ++ [c]) := by
  refine ⟨by simpa [vb] using ho, ?_, h.ne, ?_⟩
  · intro j hj
    have h1 := (World.grownBy_alloc wr o1 none).cell (h.cell j hj) (by simp)
    exact g1.cell h1 (fun e => h.ne (Option.some.inj e))
  · have hnx := h.below
    exact (hnx.alloc hnx.size _).grown g1 (by have := hnx.size; simp; omega) (fun k hk => by cases hk; exact Nat.le_refl _)

/-- What is known of the reader behind k bytes. -/
def At (v : ByteArray) (k : Nat) (e : Bool) (l : List UInt8) : Prop := un (v.data.toList.take k) (false, []) = some (e, l)
theorem At.len {v : ByteArray} {k : Nat} {e : Bool} {l : List UInt8} (h : At v k e l) : l.length ≤ k := by
  have h1 := un_len _ _ _ _ _ h
  have h2 := List.length_take_le k v.data.toList
  simp at h1
  omega
theorem At.next {v : ByteArray} {k : Nat} {e : Bool} {l : List UInt8} (h : At v k e l) (hk : k < v.size) {st : Bool × List UInt8} (hs : step (e, l) v[k] = some st) : At v (k + 1) st.1 st.2 := by
  unfold At
  rw [take_snoc v k hk, un_snoc _ _ _ _ h, hs]
theorem At.dead {v : ByteArray} {k : Nat} {e : Bool} {l : List UInt8} (h : At v k e l) (hk : k < v.size) (hs : step (e, l) v[k] = none) : un v.data.toList (false, []) = none := by
  have h1 : un (v.data.toList.take (k + 1)) (false, []) = none := by rw [take_snoc v k hk, un_snoc _ _ _ _ h, hs]
  rw [← List.take_append_drop (k + 1) v.data.toList]
  exact un_none _ _ _ h1
theorem At.done {v : ByteArray} {e : Bool} {l : List UInt8} (h : At v v.size e l) : un v.data.toList (false, []) = some (e, l) := by
  unfold At at h
  rwa [take_all] at h
theorem ret_sb {a b : ByteArray} {x y : Bool} (h : a = b) (h2 : x = y) : Ending.returned (.tuple #[.string a, .bool x]) = .returned (.tuple #[.string b, .bool y]) := by rw [h, h2]
theorem ret_dead {v : ByteArray} (h : un v.data.toList (false, []) = none) : Ending.returned (.tuple #[.string ⟨#[]⟩, .bool false]) = .returned (.tuple #[.string ⟨(unS v.data.toList).toArray⟩, .bool (unOk v.data.toList)]) := by
  simp [unS, unOk, h]
theorem ret_done {v : ByteArray} {e : Bool} {l : List UInt8} (h : un v.data.toList (false, []) = some (e, l)) : Ending.returned (.tuple #[.string ⟨l.toArray⟩, .bool !e]) = .returned (.tuple #[.string ⟨(unS v.data.toList).toArray⟩, .bool (unOk v.data.toList)]) := by
  simp [unS, unOk, h]

set_option maxHeartbeats 1600000 in
set_option maxRecDepth 100000 in
theorem unescape_any (v : ByteArray) (w : World) (hv : v.size ≤ 4194304) :
    Calls Try.prog 22 #[.string v] w fun e w' => e = .returned (.tuple #[.string ⟨(unS v.data.toList).toArray⟩, .bool (unOk v.data.toList)]) ∧ Below w.heap.size w w' := by
  obtain ⟨i0, hi, hz0, hz1, hz2⟩ := info_parts info5
  go_enter Try.func22, Try.ntmps22
  go_wp2_with (at_make; refine wpList_make_own _ rfl _ _ 31 rfl w.heap.size 5 i0 (.int .u8 0) 1 Try.underlying31 hi hz0 hz1 _ _ _ v.size rfl rfl rfl ?b2 ?b3 (Nat.le_refl _) ?_)
  case b2 => rw [hz2]; omega
  case b3 => unfold maxLen; omega
  intro w0 hown0 hgrow0
  obtain ⟨cap, wc, hcv, hgc, hcell⟩ := conv_bytes w0 v
  have hG : w.heap.size < w0.heap.size := by
    have := hown0.lt w.heap.size rfl
    exact this.2
  have I0 : Inv w wc v w0.heap.size 0 [] := ⟨hown0.kept hgc (.inr (by simp [Value.ownBlock])), hcell, by omega, ((Below.refl _ _).grown hgrow0 (Nat.le_refl _) (fun k h => by cases h)).grown hgc hgrow0.size (fun k h => by cases h)⟩
  clear hown0 hcell hgc hgrow0
  go_wp2
  go_loopw [4, 5, 14] (fun b e i wr => ∃ (k n : Nat) (eb : Bool) (l : List UInt8), k ≤ v.size ∧ n ≤ k ∧ i = .int .i64 k ∧ e = .bool eb ∧ b = .slice (some ⟨w.heap.size, 0, none⟩) n v.size ∧
      At v k eb l ∧ Inv w wr v w0.heap.size n l)
    (fun _ _ i _ => v.size - (intOf i).toNat)
  case atStart => exact ⟨0, 0, false, [], Nat.zero_le _, Nat.zero_le _, rfl, rfl, rfl, rfl, I0⟩
  case round =>
    obtain ⟨k, n, eb, l, hk, hn, rfl, rfl, rfl, hat, hinv⟩ := hrel
    by_cases hlt : k < v.size
    · have hcx := hinv.cell k hlt
      cases eb with
      | true =>
        by_cases c1 : ((v[k].toNat : Int) == 92) = true
        · have e1 : ((v[k].toNat : Int) != 92) = false := by simpa [bne] using c1
          have NX : At v (k + 1) false (l ++ [v[k]]) := hat.next hlt (step_open_yes _ _ (sp_of (.inl c1)))
          go_wp2_with (at_builtin; refine wpList_append_fits _ rfl (.tmp 38) (.tmp 40) 31 rfl w.heap.size 5 i0 1 Try.underlying31 hi hz1 w.heap.size n v.size _ rfl (hinv.own.alloc _) ⟨wr.heap.size, 0, none⟩ 1 1 [.int .u8 (v[k].toNat : Int)] rfl rfl (cell_one_new _ _ _) (one_u8 _) (by omega) ?_; intro w1 hown1 hgrow1)
          have R := hinv.app hgrow1 hown1
          clear hinv hown1 hgrow1
          go_roundw
          case rel => exact ⟨k + 1, n + 1, false, l ++ [v[k]], by omega, by omega, by go_num, rfl, rfl, NX, R⟩
          case measure => simp [intOf]; omega
        · have d1 : ((v[k].toNat : Int) == 92) = false := by simpa using c1
          have e1 : ((v[k].toNat : Int) != 92) = true := by simpa [bne] using d1
          clear c1
          by_cases c2 : ((v[k].toNat : Int) == 44) = true
          · have e2 : ((v[k].toNat : Int) != 44) = false := by simpa [bne] using c2
            have NX : At v (k + 1) false (l ++ [v[k]]) := hat.next hlt (step_open_yes _ _ (sp_of (.inr (.inl c2))))
            go_wp2_with (at_builtin; refine wpList_append_fits _ rfl (.tmp 38) (.tmp 40) 31 rfl w.heap.size 5 i0 1 Try.underlying31 hi hz1 w.heap.size n v.size _ rfl (hinv.own.alloc _) ⟨wr.heap.size, 0, none⟩ 1 1 [.int .u8 (v[k].toNat : Int)] rfl rfl (cell_one_new _ _ _) (one_u8 _) (by omega) ?_; intro w1 hown1 hgrow1)
            have R := hinv.app hgrow1 hown1
            clear hinv hown1 hgrow1
            go_roundw
            case rel => exact ⟨k + 1, n + 1, false, l ++ [v[k]], by omega, by omega, by go_num, rfl, rfl, NX, R⟩
            case measure => simp [intOf]; omega
          · have d2 : ((v[k].toNat : Int) == 44) = false := by simpa using c2
            have e2 : ((v[k].toNat : Int) != 44) = true := by simpa [bne] using d2
            clear c2
            by_cases c3 : ((v[k].toNat : Int) == 61) = true
            · have e3 : ((v[k].toNat : Int) != 61) = false := by simpa [bne] using c3
              have NX : At v (k + 1) false (l ++ [v[k]]) := hat.next hlt (step_open_yes _ _ (sp_of (.inr (.inr c3))))
              go_wp2_with (at_builtin; refine wpList_append_fits _ rfl (.tmp 38) (.tmp 40) 31 rfl w.heap.size 5 i0 1 Try.underlying31 hi hz1 w.heap.size n v.size _ rfl (hinv.own.alloc _) ⟨wr.heap.size, 0, none⟩ 1 1 [.int .u8 (v[k].toNat : Int)] rfl rfl (cell_one_new _ _ _) (one_u8 _) (by omega) ?_; intro w1 hown1 hgrow1)
              have R := hinv.app hgrow1 hown1
              clear hinv hown1 hgrow1
              go_roundw
              case rel => exact ⟨k + 1, n + 1, false, l ++ [v[k]], by omega, by omega, by go_num, rfl, rfl, NX, R⟩
              case measure => simp [intOf]; omega
            · have d3 : ((v[k].toNat : Int) == 61) = false := by simpa using c3
              have e3 : ((v[k].toNat : Int) != 61) = true := by simpa [bne] using d3
              clear c3
              have D := hat.dead hlt (step_open_no _ _ (sp_no d1 d2 d3))
              go_wp2
              go_ret2
              exact ⟨ret_dead D, hinv.below⟩
      | false =>
        by_cases c1 : ((v[k].toNat : Int) == 92) = true
        · have NX : At v (k + 1) true l := hat.next hlt (by rw [byte_of (d := 92) c1]; exact step_back _)
          go_wp2
          go_roundw
          case rel => exact ⟨k + 1, n, true, l, by omega, by omega, by go_num, rfl, rfl, NX, hinv⟩
          case measure => simp [intOf]; omega
        · have d1 : ((v[k].toNat : Int) == 92) = false := by simpa using c1
          clear c1
          by_cases c2 : ((v[k].toNat : Int) == 44) = true
          · have D := hat.dead hlt (step_bare _ _ (byte_ne (d := 92) d1) (.inl (byte_of (d := 44) c2)))
            go_wp2
            go_ret2
            exact ⟨ret_dead D, hinv.below⟩
          · have d2 : ((v[k].toNat : Int) == 44) = false := by simpa using c2
            clear c2
            by_cases c3 : ((v[k].toNat : Int) == 61) = true
            · have D := hat.dead hlt (step_bare _ _ (byte_ne (d := 92) d1) (.inr (byte_of (d := 61) c3)))
              go_wp2
              go_ret2
              exact ⟨ret_dead D, hinv.below⟩
            · have d3 : ((v[k].toNat : Int) == 61) = false := by simpa using c3
              clear c3
              have NX : At v (k + 1) false (l ++ [v[k]]) := hat.next hlt (step_plain _ _ (sp_no d1 d2 d3))
              go_wp2_with (at_builtin; refine wpList_append_fits _ rfl (.tmp 18) (.tmp 20) 31 rfl w.heap.size 5 i0 1 Try.underlying31 hi hz1 w.heap.size n v.size _ rfl (hinv.own.alloc _) ⟨wr.heap.size, 0, none⟩ 1 1 [.int .u8 (v[k].toNat : Int)] rfl rfl (cell_one_new _ _ _) (one_u8 _) (by omega) ?_; intro w1 hown1 hgrow1)
              have R := hinv.app hgrow1 hown1
              clear hinv hown1 hgrow1
              go_roundw
              case rel => exact ⟨k + 1, n + 1, false, l ++ [v[k]], by omega, by omega, by go_num, rfl, rfl, NX, R⟩
              case measure => simp [intOf]; omega
    · have hcv' := conv_own hinv.own
      have D : un v.data.toList (false, []) = some (eb, l) := by
        have hk' : k = v.size := by omega
        subst hk'
        exact hat.done
      go_wp2
      go_ret2
      exact ⟨ret_done D, hinv.below⟩

set_option maxHeartbeats 400000 in
theorem zz_any (v : ByteArray) (w : World) (hv : v.size ≤ 4194304) :
    Calls Try.prog 10 #[.string v] w fun e w' => e = .returned (.tuple #[.string ⟨(unS v.data.toList).toArray⟩, .bool (unOk v.data.toList)]) ∧ Below w.heap.size w w' := by
  go_enter Try.func10, Try.ntmps10
  go_wp2_with (go_at_call 22; refine (unescape_any _ _ hv).mono ?_; rintro e w' ⟨rfl, hb⟩)
  go_ret2
  exact ⟨rfl, hb⟩
end Go.Proofs.Qxb6001175a
