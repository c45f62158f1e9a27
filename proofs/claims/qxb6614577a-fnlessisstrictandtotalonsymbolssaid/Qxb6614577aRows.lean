/-
  No cell of these rows narrows 'for every input' (looked for: loops, veiled, ifaces, maps, wideKeys, modest, calm, conditions, laid).
  DERIVED. THE GIVEN ROWS OF THIS SEAT. 2 by the template 'for every input the law returns true; each argument reads behind the call as it read before'; 0 by the template 'total and deterministic' (their statements: Qxb6614577aTotals.lean).
  GIVEN WITH THE SEED: the statements are not yours to turn. If you find one false, say at which input.
  Laid BY PROGRAM, IN A SANDBOX (cutbox-rows.mjs): the forced cells as the released guide's own fill.sh prints them over the translation 9f65e17aa58eca75… (all of the seat's roots in one cut). By AI agents, Wed Nov 11 2026. No macro, syntax, notation, axiom, sorry.
-/
import Derived.Test.Qxb6614577aChecked
import GoSem.Claim
import GoSem.ClaimJoined
import GoSem.ClaimMapViews
import Derived.JoinedTies
import Derived.KernelRfl
namespace Go.Proofs.Qxb6614577a
/- THE CELL 'sum', in the pinned program and in every row, IS THE sha256 OF THE DUMP (.gsa) THAT Qxb6614577aProg.lean LOADS. Nothing in Lean hashes anything: it is a label: what it is worth is what the hold of that sum in a sandbox is worth. -/
noncomputable def Try.pinned : Pinned := { name := "qxb6614577a", sum := "9f65e17aa58eca75d0f99bee1b1f4b25946822aac2118f98e4ac1b4d135a32d8", checked := Try.checked }
namespace Rows
def none {H : Type} : Left H := { results := [], args := [] }

/-- 'zzlaws_internal_book_b1.FnLessIsStrictAndTotalOnSymbols': WHATEVER THE INPUT: true; the input reads as it did. -/
def fnLessIsStrictAndTotalOnSymbolsSpec : ChangeSpec := { name := "fnLessIsStrictAndTotalOnSymbols", fn := fun _ => fun
  | [d1, d2, d3] => { results := [.lit (.bool true)], args := [d1, d2, d3] }
  | _ => none }
def fnLessIsStrictAndTotalOnSymbolsRow : OpenClaim := { program := "qxb6614577a", sum := "9f65e17aa58eca75d0f99bee1b1f4b25946822aac2118f98e4ac1b4d135a32d8", func := "example.com/jingzhi/jingzhi/zzlaws_internal_book_b1.FnLessIsStrictAndTotalOnSymbols", spec := "fnLessIsStrictAndTotalOnSymbols", apart := false }
def FnLessIsStrictAndTotalOnSymbolsSaid : Prop := fnLessIsStrictAndTotalOnSymbolsRow.holds Try.pinned (OpenSpec.ofChange fnLessIsStrictAndTotalOnSymbolsSpec)

/-- ITS FALSE NEIGHBOUR: 'it returns false'. Refute it at one input. -/
def fnLessIsStrictAndTotalOnSymbolsWrong : ChangeSpec := { name := "fnLessIsStrictAndTotalOnSymbols", fn := fun _ => fun
  | [d1, d2, d3] => { results := [.lit (.bool false)], args := [d1, d2, d3] }
  | _ => none }
def FnLessIsStrictAndTotalOnSymbolsWrongFalsely : Prop := fnLessIsStrictAndTotalOnSymbolsRow.holds Try.pinned (OpenSpec.ofChange fnLessIsStrictAndTotalOnSymbolsWrong)

/-- 'zzlaws_internal_book_b1.FnLessOrdersByFirstDifference': WHATEVER THE INPUT: true; the input reads as it did. -/
def fnLessOrdersByFirstDifferenceSpec : ChangeSpec := { name := "fnLessOrdersByFirstDifference", fn := fun _ => fun
  | [d1, d2, d3, d4, d5] => { results := [.lit (.bool true)], args := [d1, d2, d3, d4, d5] }
  | _ => none }
def fnLessOrdersByFirstDifferenceRow : OpenClaim := { program := "qxb6614577a", sum := "9f65e17aa58eca75d0f99bee1b1f4b25946822aac2118f98e4ac1b4d135a32d8", func := "example.com/jingzhi/jingzhi/zzlaws_internal_book_b1.FnLessOrdersByFirstDifference", spec := "fnLessOrdersByFirstDifference", apart := false }
def FnLessOrdersByFirstDifferenceSaid : Prop := fnLessOrdersByFirstDifferenceRow.holds Try.pinned (OpenSpec.ofChange fnLessOrdersByFirstDifferenceSpec)

/-- ITS FALSE NEIGHBOUR: 'it returns false'. Refute it at one input. -/
def fnLessOrdersByFirstDifferenceWrong : ChangeSpec := { name := "fnLessOrdersByFirstDifference", fn := fun _ => fun
  | [d1, d2, d3, d4, d5] => { results := [.lit (.bool false)], args := [d1, d2, d3, d4, d5] }
  | _ => none }
def FnLessOrdersByFirstDifferenceWrongFalsely : Prop := fnLessOrdersByFirstDifferenceRow.holds Try.pinned (OpenSpec.ofChange fnLessOrdersByFirstDifferenceWrong)

end Rows
end Go.Proofs.Qxb6614577a
