/-
  No cell of these rows narrows 'for every input' (looked for: loops, veiled, ifaces, maps, wideKeys, modest, calm, conditions, laid).
  DERIVED. THE GIVEN ROWS OF THIS SEAT. 2 by the template 'for every input the law returns true; each argument reads behind the call as it read before'; 0 by the template 'total and deterministic' (their statements: Qxb6627197aTotals.lean).
  GIVEN WITH THE SEED: the statements are not yours to turn. If you find one false, say at which input.
  Laid BY PROGRAM, IN A SANDBOX (cutbox-rows.mjs): the forced cells as the released guide's own fill.sh prints them over the translation caa254da5f38377f… (all of the seat's roots in one cut). By AI agents, Wed Nov 11 2026. No macro, syntax, notation, axiom, sorry.
-/
import Derived.Test.Qxb6627197aChecked
import GoSem.Claim
import GoSem.ClaimJoined
import GoSem.ClaimMapViews
import Derived.JoinedTies
import Derived.KernelRfl
namespace Go.Proofs.Qxb6627197a
/- THE CELL 'sum', in the pinned program and in every row, IS THE sha256 OF THE DUMP (.gsa) THAT Qxb6627197aProg.lean LOADS. Nothing in Lean hashes anything: it is a label: what it is worth is what the hold of that sum in a sandbox is worth. -/
noncomputable def Try.pinned : Pinned := { name := "qxb6627197a", sum := "caa254da5f38377f64fe1e02a2ec1b74e7e3173b0f337a0f3d2a9cd231ff318a", checked := Try.checked }
namespace Rows
def none {H : Type} : Left H := { results := [], args := [] }

/-- 'zzlaws_internal_bucket_b1.FnCeilShiftsByWholeNanoseconds': WHATEVER THE INPUT: true; the input reads as it did. -/
def fnCeilShiftsByWholeNanosecondsSpec : ChangeSpec := { name := "fnCeilShiftsByWholeNanoseconds", fn := fun _ => fun
  | [d1, d2, d3] => { results := [.lit (.bool true)], args := [d1, d2, d3] }
  | _ => none }
def fnCeilShiftsByWholeNanosecondsRow : OpenClaim := { program := "qxb6627197a", sum := "caa254da5f38377f64fe1e02a2ec1b74e7e3173b0f337a0f3d2a9cd231ff318a", func := "example.com/balde/balde/zzlaws_internal_bucket_b1.FnCeilShiftsByWholeNanoseconds", spec := "fnCeilShiftsByWholeNanoseconds", apart := false }
def FnCeilShiftsByWholeNanosecondsSaid : Prop := fnCeilShiftsByWholeNanosecondsRow.holds Try.pinned (OpenSpec.ofChange fnCeilShiftsByWholeNanosecondsSpec)

/-- ITS FALSE NEIGHBOUR: 'it returns false'. Refute it at one input. -/
def fnCeilShiftsByWholeNanosecondsWrong : ChangeSpec := { name := "fnCeilShiftsByWholeNanoseconds", fn := fun _ => fun
  | [d1, d2, d3] => { results := [.lit (.bool false)], args := [d1, d2, d3] }
  | _ => none }
def FnCeilShiftsByWholeNanosecondsWrongFalsely : Prop := fnCeilShiftsByWholeNanosecondsRow.holds Try.pinned (OpenSpec.ofChange fnCeilShiftsByWholeNanosecondsWrong)

/-- 'zzlaws_internal_bucket_b1.FnCeilRoundsUpToNextWholeAndHolds': WHATEVER THE INPUT: true; the input reads as it did. -/
def fnCeilRoundsUpToNextWholeAndHoldsSpec : ChangeSpec := { name := "fnCeilRoundsUpToNextWholeAndHolds", fn := fun _ => fun
  | [d1, d2] => { results := [.lit (.bool true)], args := [d1, d2] }
  | _ => none }
def fnCeilRoundsUpToNextWholeAndHoldsRow : OpenClaim := { program := "qxb6627197a", sum := "caa254da5f38377f64fe1e02a2ec1b74e7e3173b0f337a0f3d2a9cd231ff318a", func := "example.com/balde/balde/zzlaws_internal_bucket_b1.FnCeilRoundsUpToNextWholeAndHolds", spec := "fnCeilRoundsUpToNextWholeAndHolds", apart := false }
def FnCeilRoundsUpToNextWholeAndHoldsSaid : Prop := fnCeilRoundsUpToNextWholeAndHoldsRow.holds Try.pinned (OpenSpec.ofChange fnCeilRoundsUpToNextWholeAndHoldsSpec)

/-- ITS FALSE NEIGHBOUR: 'it returns false'. Refute it at one input. -/
def fnCeilRoundsUpToNextWholeAndHoldsWrong : ChangeSpec := { name := "fnCeilRoundsUpToNextWholeAndHolds", fn := fun _ => fun
  | [d1, d2] => { results := [.lit (.bool false)], args := [d1, d2] }
  | _ => none }
def FnCeilRoundsUpToNextWholeAndHoldsWrongFalsely : Prop := fnCeilRoundsUpToNextWholeAndHoldsRow.holds Try.pinned (OpenSpec.ofChange fnCeilRoundsUpToNextWholeAndHoldsWrong)

end Rows
end Go.Proofs.Qxb6627197a
