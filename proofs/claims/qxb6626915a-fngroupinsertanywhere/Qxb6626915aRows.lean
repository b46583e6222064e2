/-
  No cell of these rows narrows 'for every input' (looked for: loops, veiled, ifaces, maps, wideKeys, modest, calm, conditions, laid).
  DERIVED. THE GIVEN ROWS OF THIS SEAT. 2 by the template 'for every input the law returns true; each argument reads behind the call as it read before'; 0 by the template 'total and deterministic' (their statements: Qxb6626915aTotals.lean).
  GIVEN WITH THE SEED: the statements are not yours to turn. If you find one false, say at which input.
  Laid BY PROGRAM, IN A SANDBOX (cutbox-rows.mjs): the forced cells as the released guide's own fill.sh prints them over the translation f022690bfd5534e5… (all of the seat's roots in one cut). By AI agents, Wed Nov 11 2026. No macro, syntax, notation, axiom, sorry.
-/
import Derived.Test.Qxb6626915aChecked
import GoSem.Claim
import GoSem.ClaimJoined
import GoSem.ClaimMapViews
import Derived.JoinedTies
import Derived.KernelRfl
namespace Go.Proofs.Qxb6626915a
/- THE CELL 'sum', in the pinned program and in every row, IS THE sha256 OF THE DUMP (.gsa) THAT Qxb6626915aProg.lean LOADS. Nothing in Lean hashes anything: it is a label: what it is worth is what the hold of that sum in a sandbox is worth. -/
noncomputable def Try.pinned : Pinned := { name := "qxb6626915a", sum := "f022690bfd5534e5967d9726cf2e3aa43951ba33636e95204eafd623fa58fabe", checked := Try.checked }
namespace Rows
def none {H : Type} : Left H := { results := [], args := [] }

/-- 'zzlaws_internal_discovery_b1.FnGroupInsertAnywhere': WHATEVER THE INPUT: true; the input reads as it did. -/
def fnGroupInsertAnywhereSpec : ChangeSpec := { name := "fnGroupInsertAnywhere", fn := fun _ => fun
  | [d1, d2, d3, d4] => { results := [.lit (.bool true)], args := [d1, d2, d3, d4] }
  | _ => none }
def fnGroupInsertAnywhereRow : OpenClaim := { program := "qxb6626915a", sum := "f022690bfd5534e5967d9726cf2e3aa43951ba33636e95204eafd623fa58fabe", func := "example.com/fintan/fintan/zzlaws_internal_discovery_b1.FnGroupInsertAnywhere", spec := "fnGroupInsertAnywhere", unfollowed := true, recurses := true, plainKeys := false, apart := false }
def FnGroupInsertAnywhereSaid : Prop := fnGroupInsertAnywhereRow.holds Try.pinned (OpenSpec.ofChange fnGroupInsertAnywhereSpec)

/-- ITS FALSE NEIGHBOUR: 'it returns false'. Refute it at one input. -/
def fnGroupInsertAnywhereWrong : ChangeSpec := { name := "fnGroupInsertAnywhere", fn := fun _ => fun
  | [d1, d2, d3, d4] => { results := [.lit (.bool false)], args := [d1, d2, d3, d4] }
  | _ => none }
def FnGroupInsertAnywhereWrongFalsely : Prop := fnGroupInsertAnywhereRow.holds Try.pinned (OpenSpec.ofChange fnGroupInsertAnywhereWrong)

/-- 'zzlaws_internal_discovery_b1.FnGroupConcatAtAnyCut': WHATEVER THE INPUT: true; the input reads as it did. -/
def fnGroupConcatAtAnyCutSpec : ChangeSpec := { name := "fnGroupConcatAtAnyCut", fn := fun _ => fun
  | [d1, d2, d3] => { results := [.lit (.bool true)], args := [d1, d2, d3] }
  | _ => none }
def fnGroupConcatAtAnyCutRow : OpenClaim := { program := "qxb6626915a", sum := "f022690bfd5534e5967d9726cf2e3aa43951ba33636e95204eafd623fa58fabe", func := "example.com/fintan/fintan/zzlaws_internal_discovery_b1.FnGroupConcatAtAnyCut", spec := "fnGroupConcatAtAnyCut", unfollowed := true, recurses := true, plainKeys := false, apart := false }
def FnGroupConcatAtAnyCutSaid : Prop := fnGroupConcatAtAnyCutRow.holds Try.pinned (OpenSpec.ofChange fnGroupConcatAtAnyCutSpec)

/-- ITS FALSE NEIGHBOUR: 'it returns false'. Refute it at one input. -/
def fnGroupConcatAtAnyCutWrong : ChangeSpec := { name := "fnGroupConcatAtAnyCut", fn := fun _ => fun
  | [d1, d2, d3] => { results := [.lit (.bool false)], args := [d1, d2, d3] }
  | _ => none }
def FnGroupConcatAtAnyCutWrongFalsely : Prop := fnGroupConcatAtAnyCutRow.holds Try.pinned (OpenSpec.ofChange fnGroupConcatAtAnyCutWrong)

end Rows
end Go.Proofs.Qxb6626915a
