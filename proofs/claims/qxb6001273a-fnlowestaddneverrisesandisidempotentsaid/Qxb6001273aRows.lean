/-
  No cell of these rows narrows 'for every input' (looked for: loops, veiled, ifaces, maps, wideKeys, modest, calm, conditions, laid).
  DERIVED. THE GIVEN ROWS OF THIS SEAT. 3 by the template 'for every input the law returns true; each argument reads behind the call as it read before'; 0 by the template 'total and deterministic' (their statements: Qxb6001273aTotals.lean).
  GIVEN WITH THE SEED: the statements are not yours to turn. If you find one false, say at which input.
  Laid BY PROGRAM, IN A SANDBOX (cutbox-rows.mjs): the forced cells as the released guide's own fill.sh prints them over the translation 8f1c1832fcd00732… (all of the seat's roots in one cut). By AI agents, Wed Nov 11 2026. No macro, syntax, notation, axiom, sorry.
-/
import Derived.Test.Qxb6001273aChecked
import GoSem.Claim
import GoSem.ClaimJoined
import GoSem.ClaimMapViews
import Derived.JoinedTies
import Derived.KernelRfl
namespace Go.Proofs.Qxb6001273a
/- THE CELL 'sum', in the pinned program and in every row, IS THE sha256 OF THE DUMP (.gsa) THAT Qxb6001273aProg.lean LOADS. Nothing in Lean hashes anything: it is a label: what it is worth is what the hold of that sum in a sandbox is worth. -/
noncomputable def Try.pinned : Pinned := { name := "qxb6001273a", sum := "8f1c1832fcd0073236cf6698987c70a5230211617f3e81b8f73de2b6081e4b4f", checked := Try.checked }
namespace Rows
def none {H : Type} : Left H := { results := [], args := [] }

/-- 'zzlaws_internal_kv_b1.FnLowestAddIsMinimumOfScript': WHATEVER THE INPUT: true; the input reads as it did. -/
def fnLowestAddIsMinimumOfScriptSpec : ChangeSpec := { name := "fnLowestAddIsMinimumOfScript", fn := fun _ => fun
  | [d] => { results := [.lit (.bool true)], args := [d] }
  | _ => none }
def fnLowestAddIsMinimumOfScriptRow : OpenClaim := { program := "qxb6001273a", sum := "8f1c1832fcd0073236cf6698987c70a5230211617f3e81b8f73de2b6081e4b4f", func := "example.com/ledgerfold/ledgerfold/zzlaws_internal_kv_b1.FnLowestAddIsMinimumOfScript", spec := "fnLowestAddIsMinimumOfScript", apart := false }
def FnLowestAddIsMinimumOfScriptSaid : Prop := fnLowestAddIsMinimumOfScriptRow.holds Try.pinned (OpenSpec.ofChange fnLowestAddIsMinimumOfScriptSpec)

/-- ITS FALSE NEIGHBOUR: 'it returns false'. Refute it at one input. -/
def fnLowestAddIsMinimumOfScriptWrong : ChangeSpec := { name := "fnLowestAddIsMinimumOfScript", fn := fun _ => fun
  | [d] => { results := [.lit (.bool false)], args := [d] }
  | _ => none }
def FnLowestAddIsMinimumOfScriptWrongFalsely : Prop := fnLowestAddIsMinimumOfScriptRow.holds Try.pinned (OpenSpec.ofChange fnLowestAddIsMinimumOfScriptWrong)

/-- 'zzlaws_internal_kv_b1.FnLowestAddOrderFree': WHATEVER THE INPUT: true; the input reads as it did. -/
def fnLowestAddOrderFreeSpec : ChangeSpec := { name := "fnLowestAddOrderFree", fn := fun _ => fun
  | [d1, d2] => { results := [.lit (.bool true)], args := [d1, d2] }
  | _ => none }
def fnLowestAddOrderFreeRow : OpenClaim := { program := "qxb6001273a", sum := "8f1c1832fcd0073236cf6698987c70a5230211617f3e81b8f73de2b6081e4b4f", func := "example.com/ledgerfold/ledgerfold/zzlaws_internal_kv_b1.FnLowestAddOrderFree", spec := "fnLowestAddOrderFree", apart := false }
def FnLowestAddOrderFreeSaid : Prop := fnLowestAddOrderFreeRow.holds Try.pinned (OpenSpec.ofChange fnLowestAddOrderFreeSpec)

/-- ITS FALSE NEIGHBOUR: 'it returns false'. Refute it at one input. -/
def fnLowestAddOrderFreeWrong : ChangeSpec := { name := "fnLowestAddOrderFree", fn := fun _ => fun
  | [d1, d2] => { results := [.lit (.bool false)], args := [d1, d2] }
  | _ => none }
def FnLowestAddOrderFreeWrongFalsely : Prop := fnLowestAddOrderFreeRow.holds Try.pinned (OpenSpec.ofChange fnLowestAddOrderFreeWrong)

/-- 'zzlaws_internal_kv_b1.FnLowestAddNeverRisesAndIsIdempotent': WHATEVER THE INPUT: true; the input reads as it did. -/
def fnLowestAddNeverRisesAndIsIdempotentSpec : ChangeSpec := { name := "fnLowestAddNeverRisesAndIsIdempotent", fn := fun _ => fun
  | [d1, d2, d3] => { results := [.lit (.bool true)], args := [d1, d2, d3] }
  | _ => none }
def fnLowestAddNeverRisesAndIsIdempotentRow : OpenClaim := { program := "qxb6001273a", sum := "8f1c1832fcd0073236cf6698987c70a5230211617f3e81b8f73de2b6081e4b4f", func := "example.com/ledgerfold/ledgerfold/zzlaws_internal_kv_b1.FnLowestAddNeverRisesAndIsIdempotent", spec := "fnLowestAddNeverRisesAndIsIdempotent", apart := false }
def FnLowestAddNeverRisesAndIsIdempotentSaid : Prop := fnLowestAddNeverRisesAndIsIdempotentRow.holds Try.pinned (OpenSpec.ofChange fnLowestAddNeverRisesAndIsIdempotentSpec)

/-- ITS FALSE NEIGHBOUR: 'it returns false'. Refute it at one input. -/
def fnLowestAddNeverRisesAndIsIdempotentWrong : ChangeSpec := { name := "fnLowestAddNeverRisesAndIsIdempotent", fn := fun _ => fun
  | [d1, d2, d3] => { results := [.lit (.bool false)], args := [d1, d2, d3] }
  | _ => none }
def FnLowestAddNeverRisesAndIsIdempotentWrongFalsely : Prop := fnLowestAddNeverRisesAndIsIdempotentRow.holds Try.pinned (OpenSpec.ofChange fnLowestAddNeverRisesAndIsIdempotentWrong)

end Rows
end Go.Proofs.Qxb6001273a
