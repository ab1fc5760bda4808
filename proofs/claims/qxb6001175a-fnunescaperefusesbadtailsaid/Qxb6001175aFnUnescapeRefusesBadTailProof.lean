/-
  THE PROOF OF 'Rows.FnUnescapeRefusesBadTailSaid' (the frame: written by the guide's program off this function's print; the walk: this seat's).
-/
import Derived.Test.Qxb6001175aRows
import Derived.Test.Qxb6001175aLaws
import Derived.Test.Qxb6001175aHead
import Derived.WalkKit
import Derived.ProofKit
import Derived.OpenShut
import Derived.ShutString
namespace Go.Proofs.Qxb6001175a.fnUnescapeRefusesBadTail
open Go.ChangeShapes Go.WideShapes Go.ChangeAt Go.RowKit
open Go.ChangeMaps (open_string shut_string)
set_option linter.unusedVariables false      -- a walk need not use every 'w<i>' (that an integer argument fits its kind)

theorem own : ownKnob Try.prog.godebug = none := by kernel_rfl

/-! ### the text with its tail -/
theorem cat_list (s t : ByteArray) : (s ++ t).data.toList = s.data.toList ++ t.data.toList := by simp [ByteArray.data_append]
theorem cat_size (s t : ByteArray) : (s ++ t).size = s.size + t.size := by simp [ByteArray.size_append]
theorem zz_back' (s : ByteArray) (w : World) (hs : s.size ≤ 262144) :
    Calls Try.prog 10 #[.string (escS s ++ ⟨#[92]⟩)] w fun e w' => e = .returned (.tuple #[.string s, .bool false]) ∧ Below w.heap.size w w' :=
  zz_back s _ (by rw [cat_list, escS_list]) w (by have := escS_size s; rw [cat_size]; show _ + 1 ≤ _; omega)
theorem zz_comma' (s : ByteArray) (w : World) (hs : s.size ≤ 262144) :
    Calls Try.prog 10 #[.string (escS s ++ ⟨#[44]⟩)] w fun e w' => e = .returned (.tuple #[.string ⟨#[]⟩, .bool false]) ∧ Below w.heap.size w w' :=
  zz_tail _ (by rw [cat_list, escS_list]; exact un_comma _) w (by have := escS_size s; rw [cat_size]; show _ + 1 ≤ _; omega)
theorem zz_eq' (s : ByteArray) (w : World) (hs : s.size ≤ 262144) :
    Calls Try.prog 10 #[.string (escS s ++ ⟨#[61]⟩)] w fun e w' => e = .returned (.tuple #[.string ⟨#[]⟩, .bool false]) ∧ Below w.heap.size w w' :=
  zz_tail _ (by rw [cat_list, escS_list]; exact un_eq _) w (by have := escS_size s; rw [cat_size]; show _ + 1 ≤ _; omega)

/-! ### THE WALK: the Go text returns true. -/
set_option maxHeartbeats 400000 in
set_option maxRecDepth 100000 in
theorem walk (a0 : ByteArray) (a1 : Int) (w0 : a0.size ≤ maxLen) (w1 : (Lit.int .u8 a1).wf = true) (w : World) :
    Calls Try.prog 5 #[.string a0, .int .u8 a1] w fun e w' => e = .returned (.bool true) ∧ Below w.heap.size w w' := by
  by_cases hs : a0.size ≤ 1048576
  · by_cases h2 : a0.size ≤ 262144
    · have h3 : ¬ (262144 : Int) < (a0.size : Int) := by omega
      have hsz := escS_size a0
      have hu := bounds_u8 w1
      by_cases k0 : (a1 % 3 == 0) = true
      · go_enter Try.func5, Try.ntmps5
        go_wp2_with (first
          | (go_at_call 14; refine (bytes14_yes _ _ _ hs).mono ?_; rintro e w' ⟨rfl, rfl⟩)
          | (go_at_call 11; refine (escS_any _ _ hs).mono ?_; rintro e w1 ⟨rfl, hb1⟩)
          | (go_at_call 10; refine (zz_back' _ _ h2).mono ?_; rintro e w2 ⟨rfl, hb2⟩))
        go_ret
        exact ⟨rfl, hb1.trans (hb2.mono hb1.size)⟩
      · have k0' : (a1 % 3 == 0) = false := by simpa using k0
        clear k0
        by_cases k2 : (a1 % 3 == 2) = true
        · go_enter Try.func5, Try.ntmps5
          go_wp2_with (first
            | (go_at_call 14; refine (bytes14_yes _ _ _ hs).mono ?_; rintro e w' ⟨rfl, rfl⟩)
            | (go_at_call 11; refine (escS_any _ _ hs).mono ?_; rintro e w1 ⟨rfl, hb1⟩)
            | (go_at_call 10; refine (zz_eq' _ _ h2).mono ?_; rintro e w2 ⟨rfl, hb2⟩))
          go_ret
          exact ⟨rfl, hb1.trans (hb2.mono hb1.size)⟩
        · have k2' : (a1 % 3 == 2) = false := by simpa using k2
          clear k2
          go_enter Try.func5, Try.ntmps5
          go_wp2_with (first
            | (go_at_call 14; refine (bytes14_yes _ _ _ hs).mono ?_; rintro e w' ⟨rfl, rfl⟩)
            | (go_at_call 11; refine (escS_any _ _ hs).mono ?_; rintro e w1 ⟨rfl, hb1⟩)
            | (go_at_call 10; refine (zz_comma' _ _ h2).mono ?_; rintro e w2 ⟨rfl, hb2⟩))
          go_ret
          exact ⟨rfl, hb1.trans (hb2.mono hb1.size)⟩
    · have h3 : (262144 : Int) < (a0.size : Int) := by omega
      go_enter Try.func5, Try.ntmps5
      go_wp2_with (go_at_call 14; refine (bytes14_yes _ _ _ hs).mono ?_; rintro e w' ⟨rfl, rfl⟩)
      go_ret
      exact ⟨rfl, Below.refl _ _⟩
  · have h1 : 1048576 < a0.size := by omega
    go_enter Try.func5, Try.ntmps5
    go_wp2_with (go_at_call 14; refine (bytes14_no _ _ _ h1).mono ?_; rintro e w' ⟨rfl, rfl⟩)
    go_ret
    exact ⟨rfl, Below.refl _ _⟩

/-! ### THE ROW's STEP: WRITTEN OUT: LEAVE IT -/
set_option maxRecDepth 100000 in
theorem lifted (os : Os) (started : os.Started) (H : Type) (enc : TypeId × Value → H) :
    ReturnsInHanded {} Try.checked os 5 .any (Rows.fnUnescapeRefusesBadTailSpec.pre6 enc Try.prog Try.f5 Rows.fnUnescapeRefusesBadTailRow.domain false) (Rows.fnUnescapeRefusesBadTailSpec.post enc Try.prog Try.f5 false true false false) := by
  refine returnsInHanded_of_change (C := Try.checked) own started (by kernel_rfl) Try.func5
    (ChangeSpec.witness6 (enc := enc) (C := Try.checked) false ⟨#[], #[.string ByteArray.empty, .int .u8 0], []⟩ 8 (by kernel_rfl) (by kernel_rfl) (by kernel_rfl) (by kernel_rfl)) ?_
  intro W base args ds gs before hval0 hW hcnd _
  have hval : ∀ (j : Nat) t v, Try.f5.params[j]? = some t → args[j]? = some v → Value.okWide Try.prog W .any base t v := hval0
  have hW' := hW
  obtain ⟨p, q, hA0, hV, rfl, hfz, hnd⟩ := hW
  have hA : DataW.TrodAll enc Try.prog W 0 (fun _ => true) true Try.f5.params.toList args.toList ds p := hA0
  rw [Try.params5] at hA hval
  obtain ⟨v0, vs0, d0, ds0, p0, q0, hargs, rfl, rfl, h0, r0⟩ := trodAll_cons hA
  obtain ⟨v1, vs1, d1, ds1, p1, q1, rfl, rfl, rfl, h1, r1⟩ := trodAll_cons r0
  obtain ⟨rfl, rfl, rfl⟩ := trodAll_nil r1
  obtain rfl : args = #[v0, v1] := by cases args; simp_all
  obtain ⟨rfl, rfl⟩ := trodVars_none hV
  obtain ⟨a0, rfl, rfl, rfl, w0⟩ := open_string Try.underlying9 (hval 0 9 v0 rfl rfl) h0
  obtain ⟨a1, rfl, rfl, rfl, w1⟩ := open_int Try.underlying5 (hval 1 5 v1 rfl rfl) h1
  clear hA0 hval0
  refine (walk a0 a1 w0 w1 W).mono fun e W' ⟨he, bel⟩ => ?_
  subst he
  exact ⟨_, rfl, _, _, _, [], _, [], hW', trodAll_mk1 (shut_bool Try.underlying4 _), (trodAll_cons_mk (shut_string Try.underlying9 w0) (trodAll_cons_mk (shut_int Try.underlying5 w1) trodAll_mk0)), rfl, bel.frame _, fun h => by cases h⟩

theorem lifted_fits : (Rows.fnUnescapeRefusesBadTailRow.lifted == Try.pinned.checked.prog.liftsFinal) = true := by rw [liftsFinal_is]; rfl
theorem make_fits : (Try.pinned.checked.prog.make == some Rows.fnUnescapeRefusesBadTailRow.make) = true := by rw [make_is]; rfl

theorem closed : joinedFacts Try.pinned.checked.prog 5 Try.f5 Rows.fnUnescapeRefusesBadTailSpec Rows.fnUnescapeRefusesBadTailRow = true := by
  unfold joinedFacts
  simp only [Bool.and_eq_true]
  repeat' (refine And.intro ?_ ?_)
  all_goals first
    | (with_reducible exact mayEnter_is)
    | (with_reducible exact lifted_fits)
    | (with_reducible exact make_fits)
    | kernel_rfl

theorem over : Rows.fnUnescapeRefusesBadTailRow.holds Try.pinned (OpenSpec.ofChange Rows.fnUnescapeRefusesBadTailSpec) :=
  OpenClaim.holds_of_wide 5 Try.f5 rfl rfl rfl rfl rfl rfl rfl ⟨rfl, rfl, rfl, rfl, rfl⟩ rfl rfl rfl rfl rfl (by kernel_rfl) Try.func5 closed
    (of_decide_eq_true (by kernel_rfl)) (by unfold Func.isWrapper; first | (rw [if_pos (by decide +kernel)]; kernel_rfl) | (rw [if_neg (by decide +kernel)]; exact ⟨rfl, rfl⟩))
    (fun os started H enc _ => lifted os started H enc)

/-- THE STATEMENT -/
theorem proved : Rows.FnUnescapeRefusesBadTailSaid :=
  over
end Go.Proofs.Qxb6001175a.fnUnescapeRefusesBadTail
