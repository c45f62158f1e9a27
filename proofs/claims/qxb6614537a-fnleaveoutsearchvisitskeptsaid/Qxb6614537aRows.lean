/-
  No cell of these rows narrows 'for every input' (looked for: loops, veiled, ifaces, maps, wideKeys, modest, calm, conditions, laid).
  DERIVED. THE GIVEN ROWS OF THIS SEAT. 3 by the template 'for every input the law returns true; each argument reads behind the call as it read before'; 0 by the template 'total and deterministic' (their statements: Qxb6614537aTotals.lean).
  GIVEN WITH THE SEED: the statements are not yours to turn. If you find one false, say at which input.
  Laid BY PROGRAM, IN A SANDBOX (cutbox-rows.mjs): the forced cells as the released guide's own fill.sh prints them over the translation 97a870ea2fbcabdb… (all of the seat's roots in one cut). By AI agents, Wed Nov 11 2026. No macro, syntax, notation, axiom, sorry.
-/
import Derived.Test.Qxb6614537aChecked
import GoSem.Claim
import GoSem.ClaimJoined
import GoSem.ClaimMapViews
import Derived.JoinedTies
import Derived.KernelRfl
namespace Go.Proofs.Qxb6614537a
/- THE CELL 'sum', in the pinned program and in every row, IS THE sha256 OF THE DUMP (.gsa) THAT Qxb6614537aProg.lean LOADS. Nothing in Lean hashes anything: it is a label: what it is worth is what the hold of that sum in a sandbox is worth. -/
noncomputable def Try.pinned : Pinned := { name := "qxb6614537a", sum := "97a870ea2fbcabdb8551544e4f596cb75424a43ac7eb58e9a56161dc4885d2a6", checked := Try.checked }
namespace Rows
def none {H : Type} : Left H := { results := [], args := [] }

/-- 'zzlaws_internal_packets_b1.FnAtomsHasReadsBackEveryWord': WHATEVER THE INPUT: true; the input reads as it did. -/
def fnAtomsHasReadsBackEveryWordSpec : ChangeSpec := { name := "fnAtomsHasReadsBackEveryWord", fn := fun _ => fun
  | [d] => { results := [.lit (.bool true)], args := [d] }
  | _ => none }
def fnAtomsHasReadsBackEveryWordRow : OpenClaim := { program := "qxb6614537a", sum := "97a870ea2fbcabdb8551544e4f596cb75424a43ac7eb58e9a56161dc4885d2a6", func := "example.com/vetter/vetter/zzlaws_internal_packets_b1.FnAtomsHasReadsBackEveryWord", spec := "fnAtomsHasReadsBackEveryWord", apart := false }
def FnAtomsHasReadsBackEveryWordSaid : Prop := fnAtomsHasReadsBackEveryWordRow.holds Try.pinned (OpenSpec.ofChange fnAtomsHasReadsBackEveryWordSpec)

/-- ITS FALSE NEIGHBOUR: 'it returns false'. Refute it at one input. -/
def fnAtomsHasReadsBackEveryWordWrong : ChangeSpec := { name := "fnAtomsHasReadsBackEveryWord", fn := fun _ => fun
  | [d] => { results := [.lit (.bool false)], args := [d] }
  | _ => none }
def FnAtomsHasReadsBackEveryWordWrongFalsely : Prop := fnAtomsHasReadsBackEveryWordRow.holds Try.pinned (OpenSpec.ofChange fnAtomsHasReadsBackEveryWordWrong)

/-- 'zzlaws_internal_packets_b1.FnAtomsHasSetAndClearOneBit': WHATEVER THE INPUT: true; the input reads as it did. -/
def fnAtomsHasSetAndClearOneBitSpec : ChangeSpec := { name := "fnAtomsHasSetAndClearOneBit", fn := fun _ => fun
  | [d1, d2] => { results := [.lit (.bool true)], args := [d1, d2] }
  | _ => none }
def fnAtomsHasSetAndClearOneBitRow : OpenClaim := { program := "qxb6614537a", sum := "97a870ea2fbcabdb8551544e4f596cb75424a43ac7eb58e9a56161dc4885d2a6", func := "example.com/vetter/vetter/zzlaws_internal_packets_b1.FnAtomsHasSetAndClearOneBit", spec := "fnAtomsHasSetAndClearOneBit", apart := false }
def FnAtomsHasSetAndClearOneBitSaid : Prop := fnAtomsHasSetAndClearOneBitRow.holds Try.pinned (OpenSpec.ofChange fnAtomsHasSetAndClearOneBitSpec)

/-- ITS FALSE NEIGHBOUR: 'it returns false'. Refute it at one input. -/
def fnAtomsHasSetAndClearOneBitWrong : ChangeSpec := { name := "fnAtomsHasSetAndClearOneBit", fn := fun _ => fun
  | [d1, d2] => { results := [.lit (.bool false)], args := [d1, d2] }
  | _ => none }
def FnAtomsHasSetAndClearOneBitWrongFalsely : Prop := fnAtomsHasSetAndClearOneBitRow.holds Try.pinned (OpenSpec.ofChange fnAtomsHasSetAndClearOneBitWrong)

/-- 'zzlaws_internal_packets_b1.FnLeaveOutSearchVisitsKept': WHATEVER THE INPUT: true; the input reads as it did. -/
def fnLeaveOutSearchVisitsKeptSpec : ChangeSpec := { name := "fnLeaveOutSearchVisitsKept", fn := fun _ => fun
  | [d] => { results := [.lit (.bool true)], args := [d] }
  | _ => none }
def fnLeaveOutSearchVisitsKeptRow : OpenClaim := { program := "qxb6614537a", sum := "97a870ea2fbcabdb8551544e4f596cb75424a43ac7eb58e9a56161dc4885d2a6", func := "example.com/vetter/vetter/zzlaws_internal_packets_b1.FnLeaveOutSearchVisitsKept", spec := "fnLeaveOutSearchVisitsKept", unfollowed := true, recurses := true, apart := false }
def FnLeaveOutSearchVisitsKeptSaid : Prop := fnLeaveOutSearchVisitsKeptRow.holds Try.pinned (OpenSpec.ofChange fnLeaveOutSearchVisitsKeptSpec)

/-- ITS FALSE NEIGHBOUR: 'it returns false'. Refute it at one input. -/
def fnLeaveOutSearchVisitsKeptWrong : ChangeSpec := { name := "fnLeaveOutSearchVisitsKept", fn := fun _ => fun
  | [d] => { results := [.lit (.bool false)], args := [d] }
  | _ => none }
def FnLeaveOutSearchVisitsKeptWrongFalsely : Prop := fnLeaveOutSearchVisitsKeptRow.holds Try.pinned (OpenSpec.ofChange fnLeaveOutSearchVisitsKeptWrong)

end Rows
end Go.Proofs.Qxb6614537a
