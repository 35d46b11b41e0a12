/-
  No cell of these rows narrows 'for every input' (looked for: loops, veiled, ifaces, maps, wideKeys, modest, calm, conditions, laid).
  DERIVED. THE GIVEN ROWS OF THIS SEAT. 6 by the template 'for every input the law returns true; each argument reads behind the call as it read before'; 0 by the template 'total and deterministic' (their statements: Qxb6617194aTotals.lean).
  GIVEN WITH THE SEED: the statements are not yours to turn. If you find one false, say at which input.
  Laid BY PROGRAM, IN A SANDBOX (cutbox-rows.mjs): the forced cells as the released guide's own fill.sh prints them over the translation 57eea711d098b085… (all of the seat's roots in one cut). By AI agents, Wed Nov 11 2026. No macro, syntax, notation, axiom, sorry.
-/
import Derived.Test.Qxb6617194aChecked
import GoSem.Claim
import GoSem.ClaimJoined
import GoSem.ClaimMapViews
import Derived.JoinedTies
import Derived.KernelRfl
namespace Go.Proofs.Qxb6617194a
/- THE CELL 'sum', in the pinned program and in every row, IS THE sha256 OF THE DUMP (.gsa) THAT Qxb6617194aProg.lean LOADS. Nothing in Lean hashes anything: it is a label: what it is worth is what the hold of that sum in a sandbox is worth. -/
noncomputable def Try.pinned : Pinned := { name := "qxb6617194a", sum := "57eea711d098b0853af5ccc4bad58e1ffc64070af4aff64cbda45c6a51b8f23d", checked := Try.checked }
namespace Rows
def none {H : Type} : Left H := { results := [], args := [] }

/-- 'zzlaws_internal_eval_b1.FnBelowSplitsAtAnyCut': WHATEVER THE INPUT: true; the input reads as it did. -/
def fnBelowSplitsAtAnyCutSpec : ChangeSpec := { name := "fnBelowSplitsAtAnyCut", fn := fun _ => fun
  | [d1, d2, d3] => { results := [.lit (.bool true)], args := [d1, d2, d3] }
  | _ => none }
def fnBelowSplitsAtAnyCutRow : OpenClaim := { program := "qxb6617194a", sum := "57eea711d098b0853af5ccc4bad58e1ffc64070af4aff64cbda45c6a51b8f23d", func := "example.com/policy-evaluator/policy-evaluator/zzlaws_internal_eval_b1.FnBelowSplitsAtAnyCut", spec := "fnBelowSplitsAtAnyCut", apart := false }
def FnBelowSplitsAtAnyCutSaid : Prop := fnBelowSplitsAtAnyCutRow.holds Try.pinned (OpenSpec.ofChange fnBelowSplitsAtAnyCutSpec)

/-- ITS FALSE NEIGHBOUR: 'it returns false'. Refute it at one input. -/
def fnBelowSplitsAtAnyCutWrong : ChangeSpec := { name := "fnBelowSplitsAtAnyCut", fn := fun _ => fun
  | [d1, d2, d3] => { results := [.lit (.bool false)], args := [d1, d2, d3] }
  | _ => none }
def FnBelowSplitsAtAnyCutWrongFalsely : Prop := fnBelowSplitsAtAnyCutRow.holds Try.pinned (OpenSpec.ofChange fnBelowSplitsAtAnyCutWrong)

/-- 'zzlaws_internal_eval_b1.FnBelowPartitionsWithNegation': WHATEVER THE INPUT: true; the input reads as it did. -/
def fnBelowPartitionsWithNegationSpec : ChangeSpec := { name := "fnBelowPartitionsWithNegation", fn := fun _ => fun
  | [d1, d2] => { results := [.lit (.bool true)], args := [d1, d2] }
  | _ => none }
def fnBelowPartitionsWithNegationRow : OpenClaim := { program := "qxb6617194a", sum := "57eea711d098b0853af5ccc4bad58e1ffc64070af4aff64cbda45c6a51b8f23d", func := "example.com/policy-evaluator/policy-evaluator/zzlaws_internal_eval_b1.FnBelowPartitionsWithNegation", spec := "fnBelowPartitionsWithNegation", apart := false }
def FnBelowPartitionsWithNegationSaid : Prop := fnBelowPartitionsWithNegationRow.holds Try.pinned (OpenSpec.ofChange fnBelowPartitionsWithNegationSpec)

/-- ITS FALSE NEIGHBOUR: 'it returns false'. Refute it at one input. -/
def fnBelowPartitionsWithNegationWrong : ChangeSpec := { name := "fnBelowPartitionsWithNegation", fn := fun _ => fun
  | [d1, d2] => { results := [.lit (.bool false)], args := [d1, d2] }
  | _ => none }
def FnBelowPartitionsWithNegationWrongFalsely : Prop := fnBelowPartitionsWithNegationRow.holds Try.pinned (OpenSpec.ofChange fnBelowPartitionsWithNegationWrong)

/-- 'zzlaws_internal_eval_b1.FnDistinctFirstOccurrencesAndIdempotent': WHATEVER THE INPUT: true; the input reads as it did. -/
def fnDistinctFirstOccurrencesAndIdempotentSpec : ChangeSpec := { name := "fnDistinctFirstOccurrencesAndIdempotent", fn := fun _ => fun
  | [d] => { results := [.lit (.bool true)], args := [d] }
  | _ => none }
def fnDistinctFirstOccurrencesAndIdempotentRow : OpenClaim := { program := "qxb6617194a", sum := "57eea711d098b0853af5ccc4bad58e1ffc64070af4aff64cbda45c6a51b8f23d", func := "example.com/policy-evaluator/policy-evaluator/zzlaws_internal_eval_b1.FnDistinctFirstOccurrencesAndIdempotent", spec := "fnDistinctFirstOccurrencesAndIdempotent", apart := false }
def FnDistinctFirstOccurrencesAndIdempotentSaid : Prop := fnDistinctFirstOccurrencesAndIdempotentRow.holds Try.pinned (OpenSpec.ofChange fnDistinctFirstOccurrencesAndIdempotentSpec)

/-- ITS FALSE NEIGHBOUR: 'it returns false'. Refute it at one input. -/
def fnDistinctFirstOccurrencesAndIdempotentWrong : ChangeSpec := { name := "fnDistinctFirstOccurrencesAndIdempotent", fn := fun _ => fun
  | [d] => { results := [.lit (.bool false)], args := [d] }
  | _ => none }
def FnDistinctFirstOccurrencesAndIdempotentWrongFalsely : Prop := fnDistinctFirstOccurrencesAndIdempotentRow.holds Try.pinned (OpenSpec.ofChange fnDistinctFirstOccurrencesAndIdempotentWrong)

/-- 'zzlaws_internal_eval_b1.FnDistinctSplitsAtAnyCut': WHATEVER THE INPUT: true; the input reads as it did. -/
def fnDistinctSplitsAtAnyCutSpec : ChangeSpec := { name := "fnDistinctSplitsAtAnyCut", fn := fun _ => fun
  | [d1, d2] => { results := [.lit (.bool true)], args := [d1, d2] }
  | _ => none }
def fnDistinctSplitsAtAnyCutRow : OpenClaim := { program := "qxb6617194a", sum := "57eea711d098b0853af5ccc4bad58e1ffc64070af4aff64cbda45c6a51b8f23d", func := "example.com/policy-evaluator/policy-evaluator/zzlaws_internal_eval_b1.FnDistinctSplitsAtAnyCut", spec := "fnDistinctSplitsAtAnyCut", apart := false }
def FnDistinctSplitsAtAnyCutSaid : Prop := fnDistinctSplitsAtAnyCutRow.holds Try.pinned (OpenSpec.ofChange fnDistinctSplitsAtAnyCutSpec)

/-- ITS FALSE NEIGHBOUR: 'it returns false'. Refute it at one input. -/
def fnDistinctSplitsAtAnyCutWrong : ChangeSpec := { name := "fnDistinctSplitsAtAnyCut", fn := fun _ => fun
  | [d1, d2] => { results := [.lit (.bool false)], args := [d1, d2] }
  | _ => none }
def FnDistinctSplitsAtAnyCutWrongFalsely : Prop := fnDistinctSplitsAtAnyCutRow.holds Try.pinned (OpenSpec.ofChange fnDistinctSplitsAtAnyCutWrong)

/-- 'zzlaws_internal_eval_b1.FnHasPrefixBothWaysIsEquality': WHATEVER THE INPUT: true; the input reads as it did. -/
def fnHasPrefixBothWaysIsEqualitySpec : ChangeSpec := { name := "fnHasPrefixBothWaysIsEquality", fn := fun _ => fun
  | [d1, d2, d3] => { results := [.lit (.bool true)], args := [d1, d2, d3] }
  | _ => none }
def fnHasPrefixBothWaysIsEqualityRow : OpenClaim := { program := "qxb6617194a", sum := "57eea711d098b0853af5ccc4bad58e1ffc64070af4aff64cbda45c6a51b8f23d", func := "example.com/policy-evaluator/policy-evaluator/zzlaws_internal_eval_b1.FnHasPrefixBothWaysIsEquality", spec := "fnHasPrefixBothWaysIsEquality", apart := false }
def FnHasPrefixBothWaysIsEqualitySaid : Prop := fnHasPrefixBothWaysIsEqualityRow.holds Try.pinned (OpenSpec.ofChange fnHasPrefixBothWaysIsEqualitySpec)

/-- ITS FALSE NEIGHBOUR: 'it returns false'. Refute it at one input. -/
def fnHasPrefixBothWaysIsEqualityWrong : ChangeSpec := { name := "fnHasPrefixBothWaysIsEquality", fn := fun _ => fun
  | [d1, d2, d3] => { results := [.lit (.bool false)], args := [d1, d2, d3] }
  | _ => none }
def FnHasPrefixBothWaysIsEqualityWrongFalsely : Prop := fnHasPrefixBothWaysIsEqualityRow.holds Try.pinned (OpenSpec.ofChange fnHasPrefixBothWaysIsEqualityWrong)

/-- 'zzlaws_internal_eval_b1.FnHasPrefixOfEveryJoin': WHATEVER THE INPUT: true; the input reads as it did. -/
def fnHasPrefixOfEveryJoinSpec : ChangeSpec := { name := "fnHasPrefixOfEveryJoin", fn := fun _ => fun
  | [d1, d2] => { results := [.lit (.bool true)], args := [d1, d2] }
  | _ => none }
def fnHasPrefixOfEveryJoinRow : OpenClaim := { program := "qxb6617194a", sum := "57eea711d098b0853af5ccc4bad58e1ffc64070af4aff64cbda45c6a51b8f23d", func := "example.com/policy-evaluator/policy-evaluator/zzlaws_internal_eval_b1.FnHasPrefixOfEveryJoin", spec := "fnHasPrefixOfEveryJoin", apart := false }
def FnHasPrefixOfEveryJoinSaid : Prop := fnHasPrefixOfEveryJoinRow.holds Try.pinned (OpenSpec.ofChange fnHasPrefixOfEveryJoinSpec)

/-- ITS FALSE NEIGHBOUR: 'it returns false'. Refute it at one input. -/
def fnHasPrefixOfEveryJoinWrong : ChangeSpec := { name := "fnHasPrefixOfEveryJoin", fn := fun _ => fun
  | [d1, d2] => { results := [.lit (.bool false)], args := [d1, d2] }
  | _ => none }
def FnHasPrefixOfEveryJoinWrongFalsely : Prop := fnHasPrefixOfEveryJoinRow.holds Try.pinned (OpenSpec.ofChange fnHasPrefixOfEveryJoinWrong)

end Rows
end Go.Proofs.Qxb6617194a
