/-
  No cell of these rows narrows 'for every input' (looked for: loops, veiled, ifaces, maps, wideKeys, modest, calm, conditions, laid).
  DERIVED. THE GIVEN ROWS OF THIS SEAT. 2 by the template 'for every input the law returns true; each argument reads behind the call as it read before'; 0 by the template 'total and deterministic' (their statements: Qxb6626481aTotals.lean).
  GIVEN WITH THE SEED: the statements are not yours to turn. If you find one false, say at which input.
  Laid BY PROGRAM, IN A SANDBOX (cutbox-rows.mjs): the forced cells as the released guide's own fill.sh prints them over the translation 00cc888c23ec4fc0… (all of the seat's roots in one cut). By AI agents, Wed Nov 11 2026. No macro, syntax, notation, axiom, sorry.
-/
import Derived.Test.Qxb6626481aChecked
import GoSem.Claim
import GoSem.ClaimJoined
import GoSem.ClaimMapViews
import Derived.JoinedTies
import Derived.KernelRfl
namespace Go.Proofs.Qxb6626481a
/- THE CELL 'sum', in the pinned program and in every row, IS THE sha256 OF THE DUMP (.gsa) THAT Qxb6626481aProg.lean LOADS. Nothing in Lean hashes anything: it is a label: what it is worth is what the hold of that sum in a sandbox is worth. -/
noncomputable def Try.pinned : Pinned := { name := "qxb6626481a", sum := "00cc888c23ec4fc03aca7b7ae2672c22fa9c97e644d177cbe07f04bcecbb0310", checked := Try.checked }
namespace Rows
def none {H : Type} : Left H := { results := [], args := [] }

/-- 'zzlaws_root_b1.FnAmountOfBigCanonicalForm': WHATEVER THE INPUT: true; the input reads as it did. -/
def fnAmountOfBigCanonicalFormSpec : ChangeSpec := { name := "fnAmountOfBigCanonicalForm", fn := fun _ => fun
  | [d1, d2, d3] => { results := [.lit (.bool true)], args := [d1, d2, d3] }
  | _ => none }
def fnAmountOfBigCanonicalFormRow : OpenClaim := { program := "qxb6626481a", sum := "00cc888c23ec4fc03aca7b7ae2672c22fa9c97e644d177cbe07f04bcecbb0310", func := "example.com/slowr/slowr/zzlaws_root_b1.FnAmountOfBigCanonicalForm", spec := "fnAmountOfBigCanonicalForm", apart := false }
def FnAmountOfBigCanonicalFormSaid : Prop := fnAmountOfBigCanonicalFormRow.holds Try.pinned (OpenSpec.ofChange fnAmountOfBigCanonicalFormSpec)

/-- ITS FALSE NEIGHBOUR: 'it returns false'. Refute it at one input. -/
def fnAmountOfBigCanonicalFormWrong : ChangeSpec := { name := "fnAmountOfBigCanonicalForm", fn := fun _ => fun
  | [d1, d2, d3] => { results := [.lit (.bool false)], args := [d1, d2, d3] }
  | _ => none }
def FnAmountOfBigCanonicalFormWrongFalsely : Prop := fnAmountOfBigCanonicalFormRow.holds Try.pinned (OpenSpec.ofChange fnAmountOfBigCanonicalFormWrong)

/-- 'zzlaws_root_b1.FnAmountOfBigKeepsItsOwnCopy': WHATEVER THE INPUT: true; the input reads as it did. -/
def fnAmountOfBigKeepsItsOwnCopySpec : ChangeSpec := { name := "fnAmountOfBigKeepsItsOwnCopy", fn := fun _ => fun
  | [d1, d2] => { results := [.lit (.bool true)], args := [d1, d2] }
  | _ => none }
def fnAmountOfBigKeepsItsOwnCopyRow : OpenClaim := { program := "qxb6626481a", sum := "00cc888c23ec4fc03aca7b7ae2672c22fa9c97e644d177cbe07f04bcecbb0310", func := "example.com/slowr/slowr/zzlaws_root_b1.FnAmountOfBigKeepsItsOwnCopy", spec := "fnAmountOfBigKeepsItsOwnCopy", apart := false }
def FnAmountOfBigKeepsItsOwnCopySaid : Prop := fnAmountOfBigKeepsItsOwnCopyRow.holds Try.pinned (OpenSpec.ofChange fnAmountOfBigKeepsItsOwnCopySpec)

/-- ITS FALSE NEIGHBOUR: 'it returns false'. Refute it at one input. -/
def fnAmountOfBigKeepsItsOwnCopyWrong : ChangeSpec := { name := "fnAmountOfBigKeepsItsOwnCopy", fn := fun _ => fun
  | [d1, d2] => { results := [.lit (.bool false)], args := [d1, d2] }
  | _ => none }
def FnAmountOfBigKeepsItsOwnCopyWrongFalsely : Prop := fnAmountOfBigKeepsItsOwnCopyRow.holds Try.pinned (OpenSpec.ofChange fnAmountOfBigKeepsItsOwnCopyWrong)

end Rows
end Go.Proofs.Qxb6626481a
