/- The callees that the two laws share: ZZIsWord (6) with isWord (8), and zzBytes (5, 7). -/
import Derived.Test.Qxb6614543aRows
import Derived.WalkKit
import Derived.WalkSpells
import Derived.WalkLawsBesides
import Derived.ProofKit
namespace Go.Proofs.Qxb6614543a
open Go.RowKit

/-- Are the two texts the same, byte for byte? -/
def eqS (s t : ByteArray) : Bool := s.toList == t.toList
theorem eqS_self (s : ByteArray) : eqS s s = true := by simp [eqS]
theorem eqS_two {s a b : ByteArray} (h1 : eqS s a = true) (h2 : eqS s b = true) : (a.toList == b.toList) = true := by
  simp [eqS] at h1 h2
  simp [← h1, ← h2]

set_option maxHeartbeats 400000 in
theorem word_not (k : Int) (t : ByteArray) (o e : Int) (nl : Bool) (nm : ByteArray) (w : World) (hk : (k == 1) = false) :
    Calls Try.prog 6 #[.int .i64 k, .string t, .int .i64 o, .int .i64 e, .bool nl, .string nm] w fun r w' => r = .returned (.bool false) ∧ Grown w w' := by
  go_enter Try.func6, Try.ntmps6
  go_wp2
  go_ret
  exact ⟨rfl, by repeat (first | exact Grown.refl _ | apply Grown.drew | apply Grown.alloc)⟩

set_option maxHeartbeats 400000 in
theorem word_is (t : ByteArray) (o e : Int) (nl : Bool) (nm : ByteArray) (w : World) :
    Calls Try.prog 6 #[.int .i64 1, .string t, .int .i64 o, .int .i64 e, .bool nl, .string nm] w fun r w' => r = .returned (.bool (eqS t nm)) ∧ Grown w w' := by
  go_enter Try.func6, Try.ntmps6
  go_wp2
  go_ret
  exact ⟨rfl, by repeat (first | exact Grown.refl _ | apply Grown.drew | apply Grown.alloc)⟩

theorem ret_bool {a b : Bool} (h : a = b) : Ending.returned (.bool a) = .returned (.bool b) := by rw [h]

set_option maxHeartbeats 400000 in
theorem bytes5_any (k : Int) (t : ByteArray) (o e : Int) (nl : Bool) (a b : ByteArray) (w : World) (ht : t.size ≤ maxLen) (ha : a.size ≤ maxLen) (hb : b.size ≤ maxLen) :
    Calls Try.prog 5 #[.int .i64 k, .string t, .int .i64 o, .int .i64 e, .bool nl, .string a, .string b] w fun r w' => r = .returned (.bool (decide (t.size + a.size + b.size ≤ 1048576))) ∧ w = w' := by
  unfold maxLen at ht ha hb
  go_enter Try.func5, Try.ntmps5
  go_wp2
  all_goals go_ret
  all_goals exact ⟨ret_bool (by simp; omega), rfl⟩

set_option maxHeartbeats 400000 in
theorem bytes7_any (k : Int) (t : ByteArray) (o e : Int) (nl : Bool) (o2 e2 : Int) (nl2 : Bool) (a : ByteArray) (w : World) (ht : t.size ≤ maxLen) (ha : a.size ≤ maxLen) :
    Calls Try.prog 7 #[.int .i64 k, .string t, .int .i64 o, .int .i64 e, .bool nl, .int .i64 o2, .int .i64 e2, .bool nl2, .string a] w fun r w' => r = .returned (.bool (decide (t.size + a.size ≤ 1048576))) ∧ w = w' := by
  unfold maxLen at ht ha
  go_enter Try.func7, Try.ntmps7
  go_wp2
  all_goals go_ret
  all_goals exact ⟨ret_bool (by simp; omega), rfl⟩

end Go.Proofs.Qxb6614543a
