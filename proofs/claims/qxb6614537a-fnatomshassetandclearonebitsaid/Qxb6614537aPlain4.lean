/- Plain facts for 'set one bit, clear one bit'. -/
import Derived.Test.Qxb6614537aPlain
namespace Go.Proofs.Qxb6614537a

/-- The word with bit j % 64 set; cleared. -/
def setW (Z j : Nat) : Nat := Z ||| 2 ^ (j % 64)
def clrW (Z j : Nat) : Nat := Z &&& (18446744073709551615 - 2 ^ (j % 64))

theorem pow_lt64 (j : Nat) : (2 : Nat) ^ (j % 64) < 18446744073709551616 := Nat.pow_lt_pow_right (by decide) (Nat.mod_lt j (by decide))

theorem setW_lt (Z j : Nat) (hZ : Z < 18446744073709551616) : setW Z j < 18446744073709551616 :=
  Nat.or_lt_two_pow (n := 64) hZ (pow_lt64 j)
theorem clrW_lt (Z j : Nat) (hZ : Z < 18446744073709551616) : clrW Z j < 18446744073709551616 :=
  Nat.lt_of_le_of_lt Nat.and_le_left hZ

theorem bits_setW (Z j : Nat) (hZ : Z < 18446744073709551616) : bits .or .u64 (Z : Int) (IntKind.u64.wrap ((2 : Int) ^ (j % 64))) = (setW Z j : Int) := by
  rw [wrap_pow _ (Nat.mod_lt j (by decide)), u64_or_nat _ _ hZ (pow_lt64 j)]; rfl
theorem bits_clrW (Z j : Nat) (hZ : Z < 18446744073709551616) : bits .andNot .u64 (Z : Int) (IntKind.u64.wrap ((2 : Int) ^ (j % 64))) = (clrW Z j : Int) := by
  rw [wrap_pow _ (Nat.mod_lt j (by decide)), u64_andNot_nat _ _ hZ (pow_lt64 j)]; rfl

theorem testBit_setW (Z j b : Nat) : (setW Z j).testBit b = (Z.testBit b || decide (j % 64 = b)) := by
  unfold setW
  rw [Nat.testBit_or, Nat.testBit_two_pow]
theorem testBit_clrW (Z j b : Nat) (hb : b < 64) : (clrW Z j).testBit b = (Z.testBit b && !decide (j % 64 = b)) := by
  unfold clrW
  have e : 18446744073709551615 - 2 ^ (j % 64) = 2 ^ 64 - (2 ^ (j % 64) + 1) := by omega
  rw [Nat.testBit_and, e, Nat.testBit_two_pow_sub_succ (pow_lt64 j), Nat.testBit_two_pow]
  simp [hb]

/-- The words with atom j set; cleared. -/
def setAll (Zs : List Nat) (j : Nat) : List Nat := Zs.set (j / 64) (setW (Zs.getD (j / 64) 0) j)
def clrAll (Zs : List Nat) (j : Nat) : List Nat := Zs.set (j / 64) (clrW (Zs.getD (j / 64) 0) j)

theorem getD_set (Zs : List Nat) (p q v : Nat) (hp : p < Zs.length) : (Zs.set p v).getD q 0 = if q = p then v else Zs.getD q 0 := by
  simp only [List.getD, List.getElem?_set]
  by_cases h : p = q
  · subst h; simp [hp]
  · have h' : ¬ q = p := fun e => h e.symm
    simp [h, h']

theorem has_set (Zs : List Nat) (j i : Nat) (hj : j / 64 < Zs.length) : hasB ((setAll Zs j).getD (i / 64) 0) i = (hasB (Zs.getD (i / 64) 0) i || decide (i = j)) := by
  unfold setAll hasB
  rw [getD_set _ _ _ _ hj]
  by_cases h : i / 64 = j / 64
  · rw [if_pos h, testBit_setW, h]
    congr 1
    have e : (j % 64 = i % 64) ↔ i = j := by omega
    simp [e]
  · rw [if_neg h]
    have e : ¬ i = j := by intro e; rw [e] at h; exact h rfl
    simp [e]

theorem has_clr (Zs : List Nat) (j i : Nat) (hj : j / 64 < Zs.length) : hasB ((clrAll Zs j).getD (i / 64) 0) i = (hasB (Zs.getD (i / 64) 0) i && !decide (i = j)) := by
  unfold clrAll hasB
  rw [getD_set _ _ _ _ hj]
  by_cases h : i / 64 = j / 64
  · rw [if_pos h, testBit_clrW _ _ _ (Nat.mod_lt i (by decide)), h]
    congr 1
    have e : (j % 64 = i % 64) ↔ i = j := by omega
    simp [e]
  · rw [if_neg h]
    have e : ¬ i = j := by intro e; rw [e] at h; exact h rfl
    simp [e]

theorem setAll_lt (Zs : List Nat) (j : Nat) (hj : j / 64 < Zs.length) (hZ : ∀ t, Zs.getD t 0 < 18446744073709551616) (t : Nat) : (setAll Zs j).getD t 0 < 18446744073709551616 := by
  unfold setAll
  rw [getD_set _ _ _ _ hj]
  split
  · exact setW_lt _ _ (hZ _)
  · exact hZ t
theorem clrAll_lt (Zs : List Nat) (j : Nat) (hj : j / 64 < Zs.length) (hZ : ∀ t, Zs.getD t 0 < 18446744073709551616) (t : Nat) : (clrAll Zs j).getD t 0 < 18446744073709551616 := by
  unfold clrAll
  rw [getD_set _ _ _ _ hj]
  split
  · exact clrW_lt _ _ (hZ _)
  · exact hZ t
theorem setAll_length (Zs : List Nat) (j : Nat) : (setAll Zs j).length = Zs.length := by simp [setAll]
theorem clrAll_length (Zs : List Nat) (j : Nat) : (clrAll Zs j).length = Zs.length := by simp [clrAll]

/-- 'As' agrees with 'Zs' on the first k places. -/
def Agree (Zs As : List Nat) (k : Nat) : Prop := As.length = Zs.length ∧ ∀ t, t < k → As.getD t 0 = Zs.getD t 0

theorem agree_zero (Zs : List Nat) : Agree Zs (List.replicate Zs.length 0) 0 := ⟨by simp, by omega⟩
theorem agree_succ {Zs As : List Nat} {k : Nat} (h : Agree Zs As k) (hk : k < Zs.length) : Agree Zs (As.set k (Zs.getD k 0)) (k + 1) := by
  refine ⟨by simpa using h.1, fun t ht => ?_⟩
  rw [getD_set _ _ _ _ (by rw [h.1]; exact hk)]
  split
  · rename_i e; rw [e]
  · rename_i e; exact h.2 t (by omega)
theorem agree_all {Zs As : List Nat} (h : Agree Zs As Zs.length) : As = Zs := by
  apply List.ext_getElem h.1
  intro t h1 h2
  have := h.2 t h2
  simpa [List.getD, h1, h2] using this

end Go.Proofs.Qxb6614537a
