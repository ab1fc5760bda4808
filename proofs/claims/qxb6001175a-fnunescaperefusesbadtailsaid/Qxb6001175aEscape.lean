/-
  THE WALK of 'zzEscape' (11).
-/
import Derived.Test.Qxb6001175aRows
import Derived.Test.Qxb6001175aPlain
import Derived.WalkKit
import Derived.ProofKit
import Derived.OpenShut
import Derived.ShutString
import Derived.WalkLawsBesides
import Derived.WalkSpells
namespace Go.Proofs.Qxb6001175a
open Go.ChangeShapes Go.WideShapes Go.ChangeAt Go.RowKit

theorem info5 : (Try.prog.info? 5).map (fun i => (i.zero, i.size, i.bytes)) = some (some (.int .u8 0), 1, 1) := by kernel_rfl

/-- A byte's cell. -/
def vb (c : UInt8) : Value := .int .u8 (c.toNat : Int)
def escTo (s : ByteArray) (k : Nat) : List UInt8 := esc (s.data.toList.take k)

theorem ret_str {a b : ByteArray} (h : a = b) : Ending.returned (.string a) = .returned (.string b) := by rw [h]
theorem ret_bool {a b : Bool} (h : a = b) : Ending.returned (.bool a) = .returned (.bool b) := by rw [h]
theorem take_snoc (s : ByteArray) (k : Nat) (h : k < s.size) : s.data.toList.take (k + 1) = s.data.toList.take k ++ [s[k]] := by
  rw [List.take_succ_eq_append_getElem (by simpa using h)]; rfl
theorem take_all (s : ByteArray) : s.data.toList.take s.size = s.data.toList := List.take_of_length_le (by simp)

/-- a byte by its number. -/
theorem byte_of {c d : UInt8} (h : ((c.toNat : Int) == (d.toNat : Int)) = true) : c = d := by
  rw [beq_iff_eq] at h
  exact UInt8.toNat_inj.1 (by omega)
theorem byte_ne {c d : UInt8} (h : ((c.toNat : Int) == (d.toNat : Int)) = false) : c ≠ d := by
  rw [beq_eq_false_iff_ne] at h
  intro e; subst e; exact h rfl

theorem escTo_sp (s : ByteArray) (k : Nat) (h : k < s.size) (hs : sp s[k] = true) : (escTo s (k + 1)).map vb = (escTo s k).map vb ++ [.int .u8 92] ++ [.int .u8 (s[k].toNat : Int)] := by
  unfold escTo
  rw [take_snoc s k h, esc_snoc]
  simp [escB, hs, vb]
theorem escTo_pl (s : ByteArray) (k : Nat) (h : k < s.size) (hs : sp s[k] = false) : (escTo s (k + 1)).map vb = (escTo s k).map vb ++ [.int .u8 (s[k].toNat : Int)] := by
  unfold escTo
  rw [take_snoc s k h, esc_snoc]
  simp [escB, hs, vb]

theorem sp_of {c : UInt8} (h : ((c.toNat : Int) == 92) = true ∨ ((c.toNat : Int) == 44) = true ∨ ((c.toNat : Int) == 61) = true) : sp c = true := by
  rcases h with h | h | h
  · rw [byte_of (d := 92) h]; rfl
  · rw [byte_of (d := 44) h]; rfl
  · rw [byte_of (d := 61) h]; rfl
theorem sp_no {c : UInt8} (h1 : ((c.toNat : Int) == 92) = false) (h2 : ((c.toNat : Int) == 44) = false) (h3 : ((c.toNat : Int) == 61) = false) : sp c = false := by
  have e1 : c ≠ 92 := byte_ne (d := 92) h1
  have e2 : c ≠ 44 := byte_ne (d := 44) h2
  have e3 : c ≠ 61 := byte_ne (d := 61) h3
  simp [sp, e1, e2, e3]
theorem one_u8 (x : Int) : ∀ u ∈ [Value.int .u8 x], u.oneCell' = true := by
  intro u hu; simp at hu; subst hu; rfl

/-- What the round leaves, behind two appends and behind one. -/
theorem rel_two {s : ByteArray} {w wr w1 w2 : World} {k n : Nat} {o1 o2 : Obj} (h : k < s.size) (hp : sp s[k] = true) (hnx : Below w.heap.size w wr)
    (g1 : (wr.alloc o1).grownBy w1 (some w.heap.size)) (g2 : (w1.alloc o2).grownBy w2 (some w.heap.size))
    (ho : w2.ownsRow w.heap.size 5 1 (.slice (some ⟨w.heap.size, 0, none⟩) (n + 1 + 1) (2 * s.size)) (n + 1 + 1) ((escTo s k).map vb ++ [.int .u8 92] ++ [.int .u8 (s[k].toNat : Int)])) :
    w2.ownsRow w.heap.size 5 1 (.slice (some ⟨w.heap.size, 0, none⟩) (n + 1 + 1) (2 * s.size)) (n + 1 + 1) ((escTo s (k + 1)).map vb) ∧ Below w.heap.size w w2 := by
  refine ⟨by rw [escTo_sp s k h hp]; exact ho, ?_⟩
  have hb1 : Below w.heap.size w w1 := (hnx.alloc hnx.size _).grown g1 (by have := hnx.size; simp; omega) (fun k hk => by cases hk; exact Nat.le_refl _)
  exact (hb1.alloc hb1.size _).grown g2 (by have := hb1.size; simp; omega) (fun k hk => by cases hk; exact Nat.le_refl _)
theorem rel_one {s : ByteArray} {w wr w1 : World} {k n : Nat} {o1 : Obj} (h : k < s.size) (hp : sp s[k] = false) (hnx : Below w.heap.size w wr)
    (g1 : (wr.alloc o1).grownBy w1 (some w.heap.size))
    (ho : w1.ownsRow w.heap.size 5 1 (.slice (some ⟨w.heap.size, 0, none⟩) (n + 1) (2 * s.size)) (n + 1) ((escTo s k).map vb ++ [.int .u8 (s[k].toNat : Int)])) :
    w1.ownsRow w.heap.size 5 1 (.slice (some ⟨w.heap.size, 0, none⟩) (n + 1) (2 * s.size)) (n + 1) ((escTo s (k + 1)).map vb) ∧ Below w.heap.size w w1 := by
  refine ⟨by rw [escTo_pl s k h hp]; exact ho, ?_⟩
  exact (hnx.alloc hnx.size _).grown g1 (by have := hnx.size; simp; omega) (fun k hk => by cases hk; exact Nat.le_refl _)

/-- 'string(b)' of a row of the call's own. -/
theorem conv_own {w : World} {base g n cap : Nat} {l : List UInt8} (h : w.ownsRow base 5 1 (.slice (some ⟨g, 0, none⟩) n cap) n (l.map vb)) :
    (convert 31 9 (.slice (some ⟨g, 0, none⟩) n cap)).run Try.prog w = .ok (.string ⟨l.toArray⟩) w := by
  have hl : l.length = n := by have := h.1; simpa using this
  subst hl
  refine run_convert_bytes_back w 31 9 5 _ cap l Try.underlying31 Try.underlying5 Try.underlying9 ?_
  intro j hj
  have := h.cells rfl j (vb l[j]) (by simp [List.getElem?_map, List.getElem?_eq_getElem hj])
  exact this

set_option maxHeartbeats 800000 in
set_option maxRecDepth 100000 in
theorem escape_any (s : ByteArray) (w : World) (hs : s.size ≤ 1048576) :
    Calls Try.prog 11 #[.string s] w fun e w' => e = .returned (.string ⟨(esc s.data.toList).toArray⟩) ∧ Below w.heap.size w w' := by
  obtain ⟨i0, hi, hz0, hz1, hz2⟩ := info_parts info5
  go_enter Try.func11, Try.ntmps11
  go_wp2_with (at_make; refine wpList_make_own _ rfl _ _ 31 rfl w.heap.size 5 i0 (.int .u8 0) 1 Try.underlying31 hi hz0 hz1 _ _ _ (2 * s.size) rfl rfl (by omega) ?b2 ?b3 (Nat.le_refl _) ?_)
  case b2 => rw [hz2]; omega
  case b3 => unfold maxLen; omega
  intro w0 hown0 hgrow0
  go_wp2
  go_loopw [3, 4] (fun b i wr => ∃ k n : Nat, k ≤ s.size ∧ n ≤ 2 * k ∧ i = .int .i64 k ∧ b = .slice (some ⟨w.heap.size, 0, none⟩) n (2 * s.size) ∧
      wr.ownsRow w.heap.size 5 1 (.slice (some ⟨w.heap.size, 0, none⟩) n (2 * s.size)) n ((escTo s k).map vb) ∧ Below w.heap.size w wr)
    (fun _ i _ => s.size - (intOf i).toNat)
  case atStart => exact ⟨0, 0, Nat.zero_le _, Nat.zero_le _, rfl, rfl, hown0, (Below.refl _ _).grown hgrow0 (Nat.le_refl _) (fun k h => by cases h)⟩
  case round =>
    obtain ⟨k, n, hk, hn, rfl, rfl, hown, hnx⟩ := hrel
    by_cases hlt : k < s.size
    · by_cases c1 : ((s[k].toNat : Int) == 92) = true
      · have Hp : Hid (sp s[k] = true) := sp_of (.inl c1)
        go_wp2_with (first
          | (at_builtin; refine wpList_append_fits _ rfl (.tmp 29) (.tmp 30) 31 rfl w.heap.size 5 i0 1 Try.underlying31 hi hz1 w.heap.size n (2 * s.size) _ rfl (hown.alloc _) ⟨wr.heap.size, 0, none⟩ 1 1 [.int .u8 92] rfl rfl (cell_one_new _ _ _) (one_u8 _) (by omega) ?_; intro w1 hown1 hgrow1)
          | (at_builtin; refine wpList_append_fits _ rfl (.tmp 32) (.tmp 34) 31 rfl w.heap.size 5 i0 1 Try.underlying31 hi hz1 w.heap.size (n + 1) (2 * s.size) _ rfl (hown1.alloc _) ⟨w1.heap.size, 0, none⟩ 1 1 [.int .u8 (s[k].toNat : Int)] rfl rfl (cell_one_new _ _ _) (one_u8 _) (by omega) ?_; intro w2 hown2 hgrow2))
        have R := rel_two hlt Hp.out hnx hgrow1 hgrow2 hown2
        clear hown hown1 hown2 hgrow1 hgrow2
        go_roundw
        case rel => exact ⟨k + 1, n + 1 + 1, by omega, by omega, by go_num, rfl, R.1, R.2⟩
        case measure => simp [intOf]; omega
      · have d1 : ((s[k].toNat : Int) == 92) = false := by simpa using c1
        clear c1
        by_cases c2 : ((s[k].toNat : Int) == 44) = true
        · have Hp : Hid (sp s[k] = true) := sp_of (.inr (.inl c2))
          go_wp2_with (first
            | (at_builtin; refine wpList_append_fits _ rfl (.tmp 29) (.tmp 30) 31 rfl w.heap.size 5 i0 1 Try.underlying31 hi hz1 w.heap.size n (2 * s.size) _ rfl (hown.alloc _) ⟨wr.heap.size, 0, none⟩ 1 1 [.int .u8 92] rfl rfl (cell_one_new _ _ _) (one_u8 _) (by omega) ?_; intro w1 hown1 hgrow1)
            | (at_builtin; refine wpList_append_fits _ rfl (.tmp 32) (.tmp 34) 31 rfl w.heap.size 5 i0 1 Try.underlying31 hi hz1 w.heap.size (n + 1) (2 * s.size) _ rfl (hown1.alloc _) ⟨w1.heap.size, 0, none⟩ 1 1 [.int .u8 (s[k].toNat : Int)] rfl rfl (cell_one_new _ _ _) (one_u8 _) (by omega) ?_; intro w2 hown2 hgrow2))
          have R := rel_two hlt Hp.out hnx hgrow1 hgrow2 hown2
          clear hown hown1 hown2 hgrow1 hgrow2
          go_roundw
          case rel => exact ⟨k + 1, n + 1 + 1, by omega, by omega, by go_num, rfl, R.1, R.2⟩
          case measure => simp [intOf]; omega
        · have d2 : ((s[k].toNat : Int) == 44) = false := by simpa using c2
          clear c2
          by_cases c3 : ((s[k].toNat : Int) == 61) = true
          · have Hp : Hid (sp s[k] = true) := sp_of (.inr (.inr c3))
            go_wp2_with (first
              | (at_builtin; refine wpList_append_fits _ rfl (.tmp 29) (.tmp 30) 31 rfl w.heap.size 5 i0 1 Try.underlying31 hi hz1 w.heap.size n (2 * s.size) _ rfl (hown.alloc _) ⟨wr.heap.size, 0, none⟩ 1 1 [.int .u8 92] rfl rfl (cell_one_new _ _ _) (one_u8 _) (by omega) ?_; intro w1 hown1 hgrow1)
              | (at_builtin; refine wpList_append_fits _ rfl (.tmp 32) (.tmp 34) 31 rfl w.heap.size 5 i0 1 Try.underlying31 hi hz1 w.heap.size (n + 1) (2 * s.size) _ rfl (hown1.alloc _) ⟨w1.heap.size, 0, none⟩ 1 1 [.int .u8 (s[k].toNat : Int)] rfl rfl (cell_one_new _ _ _) (one_u8 _) (by omega) ?_; intro w2 hown2 hgrow2))
            have R := rel_two hlt Hp.out hnx hgrow1 hgrow2 hown2
            clear hown hown1 hown2 hgrow1 hgrow2
            go_roundw
            case rel => exact ⟨k + 1, n + 1 + 1, by omega, by omega, by go_num, rfl, R.1, R.2⟩
            case measure => simp [intOf]; omega
          · have d3 : ((s[k].toNat : Int) == 61) = false := by simpa using c3
            clear c3
            have Hp : Hid (sp s[k] = false) := sp_no d1 d2 d3
            go_wp2_with (at_builtin; refine wpList_append_fits _ rfl (.tmp 32) (.tmp 34) 31 rfl w.heap.size 5 i0 1 Try.underlying31 hi hz1 w.heap.size n (2 * s.size) _ rfl (hown.alloc _) ⟨wr.heap.size, 0, none⟩ 1 1 [.int .u8 (s[k].toNat : Int)] rfl rfl (cell_one_new _ _ _) (one_u8 _) (by omega) ?_; intro w1 hown1 hgrow1)
            have R := rel_one hlt Hp.out hnx hgrow1 hown1
            clear hown hown1 hgrow1
            go_roundw
            case rel => exact ⟨k + 1, n + 1, by omega, by omega, by go_num, rfl, R.1, R.2⟩
            case measure => simp [intOf]; omega
    · have hk' : k = s.size := by omega
      have hcv := conv_own hown
      go_wp2
      go_ret
      exact ⟨ret_str (by simp [escTo, take_all]), hnx⟩
end Go.Proofs.Qxb6001175a
