/-
  'Rows.FnLessIsStrictAndTotalOnSymbolsSaid' proved. The frame is the kit's shell for a law over one slice and integers, turned to a slice of strings and two integers; the walk lies in Qxb6614577aMain.lean.
-/
import Derived.Test.Qxb6614577aRows
import Derived.Test.Qxb6614577aMain
import Derived.WalkKit
import Derived.ProofKit
import Derived.OpenShut
import Derived.ShutString
import Derived.ChangeOld
import Derived.Below
import Derived.SliceStrings
namespace Go.Proofs.Qxb6614577a.fnLessIsStrictAndTotalOnSymbols
open Go.ChangeShapes Go.WideShapes Go.ChangeAt Go.RowKit
open Go.ChangeMaps (open_string shut_string)
set_option linter.unusedVariables false

theorem own : ownKnob Try.prog.godebug = none := by kernel_rfl
theorem laidOut : laidOutB Try.prog = true := by kernel_rfl

/-- What the walk is told of a slice of strings that came in: it is nil; or it leads to a row whose first 'len' cells are strings. -/
def IsTexts (w : World) (a : Option Addr) (len cap : Nat) (ss : List ByteArray) : Prop :=
  (a = none ∧ len = 0 ∧ cap = 0) ∨
  ∃ x, a = some x ∧ len ≤ maxLen ∧ ss.length = len ∧ (∀ s ∈ ss, s.size ≤ maxLen) ∧ ∀ j, j < len → w.cell? (x.add j) = some (.string (ss.getD j ByteArray.empty))

theorem walk (a0 : Option Addr) (len0 cap0 : Nat) (s0 : List ByteArray) (a1 a2 : Int) (w : World) (w0 : IsTexts w a0 len0 cap0 s0) :
    Calls Try.prog 3 #[.slice a0 len0 cap0, .int .i64 a1, .int .i64 a2] w fun e w' => e = .returned (.bool true) ∧ Below w.heap.size w w' := by
  rcases w0 with ⟨rfl, rfl, rfl⟩ | ⟨x, rfl, hm, hsl, hsz, hcell⟩
  · exact main_nil a1 a2 w
  · have hs : ∀ t, (s0.getD t ByteArray.empty).size ≤ maxLen := by
      intro t
      by_cases ht : t < s0.length
      · rw [List.getD, List.getElem?_eq_getElem ht]; exact hsz _ (List.getElem_mem ht)
      · rw [List.getD, List.getElem?_eq_none (by omega)]; exact Nat.zero_le _
    have hB : Calls Try.prog 5 #[.slice (some x) len0 cap0, .int .i64 a1, .int .i64 a2] w fun e w' => SomeBool e ∧ w = w' := by
      by_cases hl : len0 ≤ 1048576
      · by_cases h0 : len0 = 0
        · subst h0; exact bytes5_zero (some x) cap0 a1 a2 w
        · obtain ⟨b, off, spot⟩ := x
          have hspot : spot = none := by simpa [Addr.add] using World.cell?_spot (hcell 0 (by omega))
          subst hspot
          exact bytes5_row b off len0 cap0 s0 a1 a2 w hl hs (fun t ht => by rw [← Addr.add_mid]; exact hcell t ht)
      · exact bytes5_long (some x) len0 cap0 a1 a2 w hm (by omega)
    by_cases hn : len0 ≤ 65536
    · refine main_row x len0 cap0 s0 a1 a2 w hn hsl hs (fun j v hj => ?_) hB
      have hjl : j < s0.length := by
        have := (List.getElem?_eq_some_iff.1 hj).1
        simpa [scells] using this
      rw [scells_at s0 j hjl] at hj
      rw [hcell j (by omega), hj]
    · exact main_long (some x) len0 cap0 a1 a2 w hm (by omega) hB

/-! ### THE ROW's STEP: WRITTEN OUT: LEAVE IT -/
set_option maxRecDepth 100000 in
theorem lifted (os : Os) (started : os.Started) (H : Type) (enc : TypeId × Value → H) :
    ReturnsInHanded {} Try.checked os 3 .any (Rows.fnLessIsStrictAndTotalOnSymbolsSpec.pre6 enc Try.prog Try.f3 Rows.fnLessIsStrictAndTotalOnSymbolsRow.domain false) (Rows.fnLessIsStrictAndTotalOnSymbolsSpec.post enc Try.prog Try.f3 false true false false) := by
  refine returnsInHanded_of_change (C := Try.checked) own started (by kernel_rfl) Try.func3
    (ChangeSpec.witness6 (enc := enc) (C := Try.checked) false ⟨#[], #[.slice none 0 0, .int .i64 0, .int .i64 0], []⟩ 8 (by kernel_rfl) (by kernel_rfl) (by kernel_rfl) (by kernel_rfl)) ?_
  intro W base args ds gs before hval0 hW hcnd _
  have hval : ∀ (j : Nat) t v, Try.f3.params[j]? = some t → args[j]? = some v → Value.okWide Try.prog W .any base t v := hval0
  have hW' := hW
  obtain ⟨p, q, hA0, hV, rfl, hfz, hnd⟩ := hW
  have hA : DataW.TrodAll enc Try.prog W 0 (fun _ => true) true Try.f3.params.toList args.toList ds p := hA0
  rw [Try.params3] at hA hval
  obtain ⟨v0, vs0, d0, ds0, p0, q0, hargs, rfl, rfl, h0, r0⟩ := trodAll_cons hA
  obtain ⟨v1, vs1, d1, ds1, p1, q1, rfl, rfl, rfl, h1, r1⟩ := trodAll_cons r0
  obtain ⟨v2, vs2, d2, ds2, p2, q2, rfl, rfl, rfl, h2, r2⟩ := trodAll_cons r1
  obtain ⟨rfl, rfl, rfl⟩ := trodAll_nil r2
  obtain rfl : args = #[v0, v1, v2] := by cases args; simp_all
  obtain ⟨rfl, rfl⟩ := trodVars_none hV
  obtain ⟨a0, len0, cap0, rfl⟩ := okWide_slice Try.underlying22 (hval 0 22 v0 rfl rfl)
  have k0 := h0
  have lt0 : ∀ x ∈ p0, x.block < W.heap.size := by obtain ⟨m, hm⟩ := k0; exact DataW.trod_lt m _ _ _ hm
  obtain ⟨s0, w0⟩ : ∃ ss, IsTexts W a0 len0 cap0 ss := by
    obtain ⟨fuel, hf⟩ := h0
    rcases open_strings Try.underlying22 Try.underlying9 (by kernel_rfl) hf with ⟨hcs, _⟩ | ⟨x, l, c, ss, hcs, _, hl, hm, hz, _, hcell, hws⟩
    · simp [Value.cells] at hcs
      obtain ⟨rfl, rfl, rfl⟩ := hcs
      exact ⟨[], .inl ⟨rfl, rfl, rfl⟩⟩
    · simp [Value.cells] at hcs
      obtain ⟨rfl, rfl, rfl⟩ := hcs
      simp only [if_true] at hz
      refine ⟨ss.take len0, .inr ⟨_, rfl, by omega, by simp; omega, fun s hs => hws s (List.mem_of_mem_take hs), fun j hj => ?_⟩⟩
      rw [hcell j (by omega)]
      simp [List.getD, hj]
  obtain ⟨a1, rfl, rfl, rfl, w1⟩ := open_int Try.underlying3 (hval 1 3 v1 rfl rfl) h1
  obtain ⟨a2, rfl, rfl, rfl, w2⟩ := open_int Try.underlying3 (hval 2 3 v2 rfl rfl) h2
  clear hA0 hval0
  refine (walk a0 len0 cap0 s0 a1 a2 W w0).mono fun e W' ⟨he, bel⟩ => ?_
  subst he
  exact ⟨_, rfl, _, _, _, [], _, [], hW', trodAll_mk1 (shut_bool Try.underlying4 _), (trodAll_cons_mk (Below.trod laidOut (by kernel_rfl) (of_decide_eq_true (by kernel_rfl)) k0 bel lt0) (trodAll_cons_mk (shut_int Try.underlying3 w1) (trodAll_cons_mk (shut_int Try.underlying3 w2) trodAll_mk0))), rfl, bel.frame _, fun h => by cases h⟩

theorem over : Rows.fnLessIsStrictAndTotalOnSymbolsRow.holds Try.pinned (OpenSpec.ofChange Rows.fnLessIsStrictAndTotalOnSymbolsSpec) :=
  OpenClaim.holds_of_wide 3 Try.f3 rfl rfl rfl rfl rfl rfl rfl ⟨rfl, rfl, rfl, rfl, rfl⟩ rfl rfl rfl rfl rfl (by kernel_rfl) Try.func3 (by kernel_rfl)
    (of_decide_eq_true (by kernel_rfl)) (by unfold Func.isWrapper; first | (rw [if_pos (by decide +kernel)]; kernel_rfl) | (rw [if_neg (by decide +kernel)]; exact ⟨rfl, rfl⟩))
    (fun os started H enc _ => lifted os started H enc)

/-- ████ THE STATEMENT ████ -/
theorem proved : Rows.FnLessIsStrictAndTotalOnSymbolsSaid := over
end Go.Proofs.Qxb6614577a.fnLessIsStrictAndTotalOnSymbols
