/-
  No cell of these rows narrows 'for every input' (looked for: loops, veiled, ifaces, maps, wideKeys, modest, calm, conditions, laid).
  DERIVED. THE GIVEN ROWS OF THIS SEAT. 2 by the template 'for every input the law returns true; each argument reads behind the call as it read before'; 0 by the template 'total and deterministic' (their statements: Qxb6608908aTotals.lean).
  GIVEN WITH THE SEED: the statements are not yours to turn. If you find one false, say at which input.
  Laid BY PROGRAM, IN A SANDBOX (cutbox-rows.mjs): the forced cells as the released guide's own fill.sh prints them over the translation 03c832408cdb3855… (all of the seat's roots in one cut). By AI agents, Wed Nov 11 2026. No macro, syntax, notation, axiom, sorry.
-/
import Derived.Test.Qxb6608908aChecked
import GoSem.Claim
import GoSem.ClaimJoined
import GoSem.ClaimMapViews
import Derived.JoinedTies
import Derived.KernelRfl
namespace Go.Proofs.Qxb6608908a
/- THE CELL 'sum', in the pinned program and in every row, IS THE sha256 OF THE DUMP (.gsa) THAT Qxb6608908aProg.lean LOADS. Nothing in Lean hashes anything: it is a label: what it is worth is what the hold of that sum in a sandbox is worth. -/
noncomputable def Try.pinned : Pinned := { name := "qxb6608908a", sum := "03c832408cdb385536da60f175618676aa7d4ba54731aafb7bfba227db243e1c", checked := Try.checked }
namespace Rows
def none {H : Type} : Left H := { results := [], args := [] }

/-- 'zzlaws_pkg_store_b1.FnUnboundSplicesKeyAndBesides': WHATEVER THE INPUT: true; the input reads as it did. -/
def fnUnboundSplicesKeyAndBesidesSpec : ChangeSpec := { name := "fnUnboundSplicesKeyAndBesides", fn := fun _ => fun
  | [d1, d2] => { results := [.lit (.bool true)], args := [d1, d2] }
  | _ => none }
def fnUnboundSplicesKeyAndBesidesRow : OpenClaim := { program := "qxb6608908a", sum := "03c832408cdb385536da60f175618676aa7d4ba54731aafb7bfba227db243e1c", func := "example.com/sure-recon/sure-recon/zzlaws_pkg_store_b1.FnUnboundSplicesKeyAndBesides", spec := "fnUnboundSplicesKeyAndBesides", inPlace := ["internal/abi.NoEscape", "internal/bytealg.MakeNoZero"], apart := false }
def FnUnboundSplicesKeyAndBesidesSaid : Prop := fnUnboundSplicesKeyAndBesidesRow.holds Try.pinned (OpenSpec.ofChange fnUnboundSplicesKeyAndBesidesSpec)

/-- ITS FALSE NEIGHBOUR: 'it returns false'. Refute it at one input. -/
def fnUnboundSplicesKeyAndBesidesWrong : ChangeSpec := { name := "fnUnboundSplicesKeyAndBesides", fn := fun _ => fun
  | [d1, d2] => { results := [.lit (.bool false)], args := [d1, d2] }
  | _ => none }
def FnUnboundSplicesKeyAndBesidesWrongFalsely : Prop := fnUnboundSplicesKeyAndBesidesRow.holds Try.pinned (OpenSpec.ofChange fnUnboundSplicesKeyAndBesidesWrong)

/-- 'zzlaws_pkg_store_b1.FnUnboundIsFiveNestedConjuncts': WHATEVER THE INPUT: true; the input reads as it did. -/
def fnUnboundIsFiveNestedConjunctsSpec : ChangeSpec := { name := "fnUnboundIsFiveNestedConjuncts", fn := fun _ => fun
  | [d1, d2] => { results := [.lit (.bool true)], args := [d1, d2] }
  | _ => none }
def fnUnboundIsFiveNestedConjunctsRow : OpenClaim := { program := "qxb6608908a", sum := "03c832408cdb385536da60f175618676aa7d4ba54731aafb7bfba227db243e1c", func := "example.com/sure-recon/sure-recon/zzlaws_pkg_store_b1.FnUnboundIsFiveNestedConjuncts", spec := "fnUnboundIsFiveNestedConjuncts", inPlace := ["internal/abi.NoEscape", "internal/bytealg.MakeNoZero"], apart := false }
def FnUnboundIsFiveNestedConjunctsSaid : Prop := fnUnboundIsFiveNestedConjunctsRow.holds Try.pinned (OpenSpec.ofChange fnUnboundIsFiveNestedConjunctsSpec)

/-- ITS FALSE NEIGHBOUR: 'it returns false'. Refute it at one input. -/
def fnUnboundIsFiveNestedConjunctsWrong : ChangeSpec := { name := "fnUnboundIsFiveNestedConjuncts", fn := fun _ => fun
  | [d1, d2] => { results := [.lit (.bool false)], args := [d1, d2] }
  | _ => none }
def FnUnboundIsFiveNestedConjunctsWrongFalsely : Prop := fnUnboundIsFiveNestedConjunctsRow.holds Try.pinned (OpenSpec.ofChange fnUnboundIsFiveNestedConjunctsWrong)

end Rows
end Go.Proofs.Qxb6608908a
