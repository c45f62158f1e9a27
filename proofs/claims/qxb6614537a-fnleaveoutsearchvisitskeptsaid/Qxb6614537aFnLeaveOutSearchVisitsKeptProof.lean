/-
  'Rows.FnLeaveOutSearchVisitsKeptSaid' proved. The frame is the kit's shell for a law over one slice, turned to a slice of bools; the walk lies in Qxb6614537aWalk5.lean.
-/
import Derived.Test.Qxb6614537aRows
import Derived.Test.Qxb6614537aWalk5
import Derived.WalkKit
import Derived.ProofKit
import Derived.OpenShut
import Derived.ShutString
import Derived.ChangeOld
import Derived.Below
import Derived.Deep.Slices
namespace Go.Proofs.Qxb6614537a.fnLeaveOutSearchVisitsKept
open Go.ChangeShapes Go.WideShapes Go.ChangeAt Go.RowKit
open Go.ChangeMaps (open_string shut_string)
set_option linter.unusedVariables false

theorem own : ownKnob Try.prog.godebug = none := by kernel_rfl
theorem laidOut : laidOutB Try.prog = true := by kernel_rfl

/-- What the walk is told of a slice of bools that came in: it is nil; or it leads to a row whose first 'len' cells are bools. -/
def IsBools (w : World) (a : Option Addr) (len cap : Nat) (bs : List Bool) : Prop :=
  (a = none ∧ len = 0 ∧ cap = 0) ∨
  ∃ x, a = some x ∧ len ≤ maxLen ∧ bs.length = len ∧ ∀ j v, (bcells bs)[j]? = some v → w.cell? (x.add j) = some v

theorem walk (a0 : Option Addr) (len0 cap0 : Nat) (b0 : List Bool) (w : World) (w0 : IsBools w a0 len0 cap0 b0) :
    Calls Try.prog 5 #[.slice a0 len0 cap0] w fun e w' => e = .returned (.bool true) ∧ Below w.heap.size w w' := by
  rcases w0 with ⟨rfl, rfl, rfl⟩ | ⟨x, rfl, hm, hbl, hcell⟩
  · exact walk5_nil w
  · by_cases hn : len0 ≤ 65536
    · exact walk5_row x len0 cap0 b0 w hn hbl hcell
    · exact walk5_long (some x) len0 cap0 w hm (by omega)

/-! ### THE ROW's STEP: WRITTEN OUT: LEAVE IT -/
set_option maxRecDepth 100000 in
theorem lifted (os : Os) (started : os.Started) (H : Type) (enc : TypeId × Value → H) :
    ReturnsInHanded {} Try.checked os 5 .any (Rows.fnLeaveOutSearchVisitsKeptSpec.pre6 enc Try.prog Try.f5 Rows.fnLeaveOutSearchVisitsKeptRow.domain false) (Rows.fnLeaveOutSearchVisitsKeptSpec.post enc Try.prog Try.f5 false true false false) := by
  refine returnsInHanded_of_change (C := Try.checked) own started (by kernel_rfl) Try.func5
    (ChangeSpec.witness6 (enc := enc) (C := Try.checked) false ⟨#[], #[.slice none 0 0], []⟩ 8 (by kernel_rfl) (by kernel_rfl) (by kernel_rfl) (by kernel_rfl)) ?_
  intro W base args ds gs before hval0 hW hcnd _
  have hval : ∀ (j : Nat) t v, Try.f5.params[j]? = some t → args[j]? = some v → Value.okWide Try.prog W .any base t v := hval0
  have hW' := hW
  obtain ⟨p, q, hA0, hV, rfl, hfz, hnd⟩ := hW
  have hA : DataW.TrodAll enc Try.prog W 0 (fun _ => true) true Try.f5.params.toList args.toList ds p := hA0
  rw [Try.params5] at hA hval
  obtain ⟨v0, vs0, d0, ds0, p0, q0, hargs, rfl, rfl, h0, r0⟩ := trodAll_cons hA
  obtain ⟨rfl, rfl, rfl⟩ := trodAll_nil r0
  obtain rfl : args = #[v0] := by cases args; simp_all
  obtain ⟨rfl, rfl⟩ := trodVars_none hV
  obtain ⟨a0, len0, cap0, rfl⟩ := okWide_slice Try.underlying27 (hval 0 27 v0 rfl rfl)
  have k0 := h0
  have lt0 : ∀ x ∈ p0, x.block < W.heap.size := by obtain ⟨m, hm⟩ := k0; exact DataW.trod_lt m _ _ _ hm
  obtain ⟨b0, w0⟩ : ∃ bs, IsBools W a0 len0 cap0 bs := by
    obtain ⟨fuel, hf⟩ := h0
    rcases Go.Deep.open_slice1 Try.underlying27 (by kernel_rfl) hf with ⟨hcs, _⟩ | ⟨x, l, c, m, n, V, D, Pl, hcs, _, hl, hm, hmm, _, hV⟩
    · simp [Value.cells] at hcs
      obtain ⟨rfl, rfl, rfl⟩ := hcs
      exact ⟨[], .inl ⟨rfl, rfl, rfl⟩⟩
    · simp [Value.cells] at hcs
      obtain ⟨rfl, rfl, rfl⟩ := hcs
      simp only [if_true] at hmm
      have hB : ∀ i, i < m → ∃ b, V i = .bool b := fun i hi => by
        obtain ⟨b, hb, _⟩ := DataW.trod_bool Try.underlying4 (hV i hi).2
        exact ⟨b, by simpa using hb⟩
      obtain ⟨B, hB⟩ := Go.Deep.choose_lt hB
      refine ⟨(List.range len0).map B, .inr ⟨_, rfl, by omega, by simp, fun j v hj => ?_⟩⟩
      simp only [bcells, List.getElem?_map] at hj
      by_cases hjl : j < len0
      · rw [List.getElem?_range hjl] at hj
        simp at hj
        rw [(hV j (by omega)).1, hB j (by omega), hj]
      · rw [List.getElem?_eq_none (by simpa using hjl)] at hj
        simp at hj
  clear hA0 hval0
  refine (walk a0 len0 cap0 b0 W w0).mono fun e W' ⟨he, bel⟩ => ?_
  subst he
  exact ⟨_, rfl, _, _, _, [], _, [], hW', trodAll_mk1 (shut_bool Try.underlying4 _), (trodAll_cons_mk (Below.trod laidOut (by kernel_rfl) (of_decide_eq_true (by kernel_rfl)) k0 bel lt0) trodAll_mk0), rfl, bel.frame _, fun h => by cases h⟩

theorem over : Rows.fnLeaveOutSearchVisitsKeptRow.holds Try.pinned (OpenSpec.ofChange Rows.fnLeaveOutSearchVisitsKeptSpec) :=
  OpenClaim.holds_of_wide 5 Try.f5 rfl rfl rfl rfl rfl rfl rfl ⟨rfl, rfl, rfl, rfl, rfl⟩ rfl rfl rfl rfl rfl (by kernel_rfl) Try.func5 (by kernel_rfl)
    (of_decide_eq_true (by kernel_rfl)) (by unfold Func.isWrapper; first | (rw [if_pos (by decide +kernel)]; kernel_rfl) | (rw [if_neg (by decide +kernel)]; exact ⟨rfl, rfl⟩))
    (fun os started H enc _ => lifted os started H enc)

/-- ████ THE STATEMENT ████ -/
theorem proved : Rows.FnLeaveOutSearchVisitsKeptSaid := over
end Go.Proofs.Qxb6614537a.fnLeaveOutSearchVisitsKept
