/-
  No cell of these rows narrows 'for every input' (looked for: loops, veiled, ifaces, maps, wideKeys, modest, calm, conditions, laid).
  DERIVED. THE GIVEN ROWS OF THIS SEAT. 2 by the template 'for every input the law returns true; each argument reads behind the call as it read before'; 0 by the template 'total and deterministic' (their statements: Qxb6614543aTotals.lean).
  GIVEN WITH THE SEED: the statements are not yours to turn. If you find one false, say at which input.
  Laid BY PROGRAM, IN A SANDBOX (cutbox-rows.mjs): the forced cells as the released guide's own fill.sh prints them over the translation 46c6a31e2969f8e5… (all of the seat's roots in one cut). By AI agents, Wed Nov 11 2026. No macro, syntax, notation, axiom, sorry.
-/
import Derived.Test.Qxb6614543aChecked
import GoSem.Claim
import GoSem.ClaimJoined
import GoSem.ClaimMapViews
import Derived.JoinedTies
import Derived.KernelRfl
namespace Go.Proofs.Qxb6614543a
/- THE CELL 'sum', in the pinned program and in every row, IS THE sha256 OF THE DUMP (.gsa) THAT Qxb6614543aProg.lean LOADS. Nothing in Lean hashes anything: it is a label: what it is worth is what the hold of that sum in a sandbox is worth. -/
noncomputable def Try.pinned : Pinned := { name := "qxb6614543a", sum := "46c6a31e2969f8e5b0194e45593efda0bcbd1dbf86bdc79b8eab9c1187970d54", checked := Try.checked }
namespace Rows
def none {H : Type} : Left H := { results := [], args := [] }

/-- 'zzlaws_internal_idllang_b1.FnIsWordNamesOnlyItsOwnText': WHATEVER THE INPUT: true; the input reads as it did. -/
def fnIsWordNamesOnlyItsOwnTextSpec : ChangeSpec := { name := "fnIsWordNamesOnlyItsOwnText", fn := fun _ => fun
  | [d1, d2, d3, d4, d5, d6, d7] => { results := [.lit (.bool true)], args := [d1, d2, d3, d4, d5, d6, d7] }
  | _ => none }
def fnIsWordNamesOnlyItsOwnTextRow : OpenClaim := { program := "qxb6614543a", sum := "46c6a31e2969f8e5b0194e45593efda0bcbd1dbf86bdc79b8eab9c1187970d54", func := "example.com/wiregen/wiregen/zzlaws_internal_idllang_b1.FnIsWordNamesOnlyItsOwnText", spec := "fnIsWordNamesOnlyItsOwnText", apart := false }
def FnIsWordNamesOnlyItsOwnTextSaid : Prop := fnIsWordNamesOnlyItsOwnTextRow.holds Try.pinned (OpenSpec.ofChange fnIsWordNamesOnlyItsOwnTextSpec)

/-- ITS FALSE NEIGHBOUR: 'it returns false'. Refute it at one input. -/
def fnIsWordNamesOnlyItsOwnTextWrong : ChangeSpec := { name := "fnIsWordNamesOnlyItsOwnText", fn := fun _ => fun
  | [d1, d2, d3, d4, d5, d6, d7] => { results := [.lit (.bool false)], args := [d1, d2, d3, d4, d5, d6, d7] }
  | _ => none }
def FnIsWordNamesOnlyItsOwnTextWrongFalsely : Prop := fnIsWordNamesOnlyItsOwnTextRow.holds Try.pinned (OpenSpec.ofChange fnIsWordNamesOnlyItsOwnTextWrong)

/-- 'zzlaws_internal_idllang_b1.FnIsWordIgnoresPlace': WHATEVER THE INPUT: true; the input reads as it did. -/
def fnIsWordIgnoresPlaceSpec : ChangeSpec := { name := "fnIsWordIgnoresPlace", fn := fun _ => fun
  | [d1, d2, d3, d4, d5, d6, d7, d8, d9] => { results := [.lit (.bool true)], args := [d1, d2, d3, d4, d5, d6, d7, d8, d9] }
  | _ => none }
def fnIsWordIgnoresPlaceRow : OpenClaim := { program := "qxb6614543a", sum := "46c6a31e2969f8e5b0194e45593efda0bcbd1dbf86bdc79b8eab9c1187970d54", func := "example.com/wiregen/wiregen/zzlaws_internal_idllang_b1.FnIsWordIgnoresPlace", spec := "fnIsWordIgnoresPlace", apart := false }
def FnIsWordIgnoresPlaceSaid : Prop := fnIsWordIgnoresPlaceRow.holds Try.pinned (OpenSpec.ofChange fnIsWordIgnoresPlaceSpec)

/-- ITS FALSE NEIGHBOUR: 'it returns false'. Refute it at one input. -/
def fnIsWordIgnoresPlaceWrong : ChangeSpec := { name := "fnIsWordIgnoresPlace", fn := fun _ => fun
  | [d1, d2, d3, d4, d5, d6, d7, d8, d9] => { results := [.lit (.bool false)], args := [d1, d2, d3, d4, d5, d6, d7, d8, d9] }
  | _ => none }
def FnIsWordIgnoresPlaceWrongFalsely : Prop := fnIsWordIgnoresPlaceRow.holds Try.pinned (OpenSpec.ofChange fnIsWordIgnoresPlaceWrong)

end Rows
end Go.Proofs.Qxb6614543a
