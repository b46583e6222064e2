/-
  No cell of these rows narrows 'for every input' (looked for: loops, veiled, ifaces, maps, wideKeys, modest, calm, conditions, laid).
  DERIVED. THE GIVEN ROWS OF THIS SEAT. 2 by the template 'for every input the law returns true; each argument reads behind the call as it read before'; 0 by the template 'total and deterministic' (their statements: Qxb6626508aTotals.lean).
  GIVEN WITH THE SEED: the statements are not yours to turn. If you find one false, say at which input.
  Laid BY PROGRAM, IN A SANDBOX (cutbox-rows.mjs): the forced cells as the released guide's own fill.sh prints them over the translation a602c006c20b1b10… (all of the seat's roots in one cut). By AI agents, Wed Nov 11 2026. No macro, syntax, notation, axiom, sorry.
-/
import Derived.Test.Qxb6626508aChecked
import GoSem.Claim
import GoSem.ClaimJoined
import GoSem.ClaimMapViews
import Derived.JoinedTies
import Derived.KernelRfl
namespace Go.Proofs.Qxb6626508a
/- THE CELL 'sum', in the pinned program and in every row, IS THE sha256 OF THE DUMP (.gsa) THAT Qxb6626508aProg.lean LOADS. Nothing in Lean hashes anything: it is a label: what it is worth is what the hold of that sum in a sandbox is worth. -/
noncomputable def Try.pinned : Pinned := { name := "qxb6626508a", sum := "a602c006c20b1b10ffa68b3e9c28d54d22b2e4614db85e4e4c6b3edb64499bd5", checked := Try.checked }
namespace Rows
def none {H : Type} : Left H := { results := [], args := [] }

/-- 'zzlaws_root_b1.FnLimitOrNegationSplitsLimitFromNoLimit': WHATEVER THE INPUT: true; the input reads as it did. -/
def fnLimitOrNegationSplitsLimitFromNoLimitSpec : ChangeSpec := { name := "fnLimitOrNegationSplitsLimitFromNoLimit", fn := fun _ => fun
  | [d1, d2] => { results := [.lit (.bool true)], args := [d1, d2] }
  | _ => none }
def fnLimitOrNegationSplitsLimitFromNoLimitRow : OpenClaim := { program := "qxb6626508a", sum := "a602c006c20b1b10ffa68b3e9c28d54d22b2e4614db85e4e4c6b3edb64499bd5", func := "example.com/loomwire/loomwire/zzlaws_root_b1.FnLimitOrNegationSplitsLimitFromNoLimit", spec := "fnLimitOrNegationSplitsLimitFromNoLimit", apart := false }
def FnLimitOrNegationSplitsLimitFromNoLimitSaid : Prop := fnLimitOrNegationSplitsLimitFromNoLimitRow.holds Try.pinned (OpenSpec.ofChange fnLimitOrNegationSplitsLimitFromNoLimitSpec)

/-- ITS FALSE NEIGHBOUR: 'it returns false'. Refute it at one input. -/
def fnLimitOrNegationSplitsLimitFromNoLimitWrong : ChangeSpec := { name := "fnLimitOrNegationSplitsLimitFromNoLimit", fn := fun _ => fun
  | [d1, d2] => { results := [.lit (.bool false)], args := [d1, d2] }
  | _ => none }
def FnLimitOrNegationSplitsLimitFromNoLimitWrongFalsely : Prop := fnLimitOrNegationSplitsLimitFromNoLimitRow.holds Try.pinned (OpenSpec.ofChange fnLimitOrNegationSplitsLimitFromNoLimitWrong)

/-- 'zzlaws_root_b1.FnLimitOrDefaultConsultedOnlyWhenUnset': WHATEVER THE INPUT: true; the input reads as it did. -/
def fnLimitOrDefaultConsultedOnlyWhenUnsetSpec : ChangeSpec := { name := "fnLimitOrDefaultConsultedOnlyWhenUnset", fn := fun _ => fun
  | [d1, d2, d3] => { results := [.lit (.bool true)], args := [d1, d2, d3] }
  | _ => none }
def fnLimitOrDefaultConsultedOnlyWhenUnsetRow : OpenClaim := { program := "qxb6626508a", sum := "a602c006c20b1b10ffa68b3e9c28d54d22b2e4614db85e4e4c6b3edb64499bd5", func := "example.com/loomwire/loomwire/zzlaws_root_b1.FnLimitOrDefaultConsultedOnlyWhenUnset", spec := "fnLimitOrDefaultConsultedOnlyWhenUnset", apart := false }
def FnLimitOrDefaultConsultedOnlyWhenUnsetSaid : Prop := fnLimitOrDefaultConsultedOnlyWhenUnsetRow.holds Try.pinned (OpenSpec.ofChange fnLimitOrDefaultConsultedOnlyWhenUnsetSpec)

/-- ITS FALSE NEIGHBOUR: 'it returns false'. Refute it at one input. -/
def fnLimitOrDefaultConsultedOnlyWhenUnsetWrong : ChangeSpec := { name := "fnLimitOrDefaultConsultedOnlyWhenUnset", fn := fun _ => fun
  | [d1, d2, d3] => { results := [.lit (.bool false)], args := [d1, d2, d3] }
  | _ => none }
def FnLimitOrDefaultConsultedOnlyWhenUnsetWrongFalsely : Prop := fnLimitOrDefaultConsultedOnlyWhenUnsetRow.holds Try.pinned (OpenSpec.ofChange fnLimitOrDefaultConsultedOnlyWhenUnsetWrong)

end Rows
end Go.Proofs.Qxb6626508a
