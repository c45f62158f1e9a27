/- Plain facts on the places at which a list of bools holds false. -/
import Derived.Laws.BitsAllLaws
namespace Go.Proofs.Qxb6614537a

/-- Of the first i places those at which 'bs' holds false, in order. -/
def fal (bs : List Bool) (i : Nat) : List Nat := (List.range i).filter fun t => !bs.getD t true

theorem fal_zero (bs : List Bool) : fal bs 0 = [] := rfl
theorem fal_yes (bs : List Bool) (i : Nat) (h : bs.getD i true = false) : fal bs (i + 1) = fal bs i ++ [i] := by
  unfold fal
  rw [List.range_succ, List.filter_append]
  rw [List.filter_cons, h]; simp
theorem fal_no (bs : List Bool) (i : Nat) (h : bs.getD i true = true) : fal bs (i + 1) = fal bs i := by
  unfold fal
  rw [List.range_succ, List.filter_append]
  rw [List.filter_cons, h]; simp
theorem fal_le (bs : List Bool) (i : Nat) : (fal bs i).length ≤ i := by
  unfold fal
  have := List.length_filter_le (fun t => !bs.getD t true) (List.range i)
  simpa using this
theorem fal_prefix (bs : List Bool) (i d : Nat) : ∃ r, fal bs (i + d) = fal bs i ++ r := by
  induction d with
  | zero => exact ⟨[], by simp⟩
  | succ d ih =>
    obtain ⟨r, hr⟩ := ih
    cases h : bs.getD (i + d) true
    · exact ⟨r ++ [i + d], by rw [← Nat.add_assoc, fal_yes _ _ h, hr, List.append_assoc]⟩
    · exact ⟨r, by rw [← Nat.add_assoc, fal_no _ _ h, hr]⟩
theorem fal_at (bs : List Bool) (i n : Nat) (hi : i < n) (h : bs.getD i true = false) : (fal bs n)[(fal bs i).length]? = some i := by
  obtain ⟨r, hr⟩ := fal_prefix bs (i + 1) (n - (i + 1))
  rw [show i + 1 + (n - (i + 1)) = n by omega, fal_yes bs i h] at hr
  rw [hr, List.append_assoc]
  simp
theorem fal_lt (bs : List Bool) (i n : Nat) (hi : i < n) (h : bs.getD i true = false) : (fal bs i).length < (fal bs n).length :=
  (List.getElem?_eq_some_iff.1 (fal_at bs i n hi h)).1

end Go.Proofs.Qxb6614537a
