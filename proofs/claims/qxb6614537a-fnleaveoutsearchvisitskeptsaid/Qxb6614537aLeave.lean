/- The callees of the third law: zzBytes (9), ZZleaveOutBools (10) with LeaveOut (12) and the two closures (13, 14). -/
import Derived.Test.Qxb6614537aRows
import Derived.Test.Qxb6614537aKit
import Derived.Deep.QuietTactic
import Derived.BigQuiet
namespace Go.Proofs.Qxb6614537a
open Go.RowKit

set_option maxHeartbeats 400000 in
theorem bytes9_any (a : Option Addr) (n c : Nat) (w : World) (hn : n ≤ maxLen) :
    Calls Try.prog 9 #[.slice a n c] w fun e w' => e = .returned (.bool (decide (n ≤ 1048576))) ∧ w = w' := by
  unfold maxLen at hn
  by_cases h : n ≤ 1048576
  · have h' : ((n : Int) ≤ 1048576) := by omega
    go_enter Try.func9, Try.ntmps9
    go_wp2
    go_ret
    exact ⟨by simp [h], rfl⟩
  · have h' : (1048576 : Int) < n := by omega
    go_enter Try.func9, Try.ntmps9
    go_wp2
    go_ret
    exact ⟨by simp [h], rfl⟩

set_option maxHeartbeats 400000 in
theorem leave_true (g n c i : Nat) (w : World) (hg : g < w.heap.size) (hi : i < n) (hn : n ≤ 65536) (hcell : w.cell? ⟨g, i, none⟩ = some (.bool true)) :
    Calls Try.prog 10 #[.slice (some ⟨g, 0, none⟩) n c, .int .i64 (i : Int)] w fun e w' => e = .returned (.int .i64 ((i : Int) + 1)) ∧ Below w.heap.size w w' := by
  have h1 : (i : Int) < (n : Int) := by omega
  have h2 : (n : Int) ≤ 65536 := by omega
  go_enter Try.func10, Try.ntmps10
  go_wp2
  go_ret
  exact ⟨rfl, ((Below.refl _ _).alloc (Nat.le_refl _) _).alloc (by simp) _⟩

set_option maxHeartbeats 400000 in
theorem leave_false (g n c i : Nat) (w : World) (hg : g < w.heap.size) (hi : i < n) (hn : n ≤ 65536) (hcell : w.cell? ⟨g, i, none⟩ = some (.bool false)) :
    Calls Try.prog 10 #[.slice (some ⟨g, 0, none⟩) n c, .int .i64 (i : Int)] w fun e w' => e = .returned (.int .i64 (i : Int)) ∧ Below w.heap.size w w' := by
  have h1 : (i : Int) < (n : Int) := by omega
  have h2 : (n : Int) ≤ 65536 := by omega
  go_enter Try.func10, Try.ntmps10
  go_wp2
  go_ret
  exact ⟨rfl, ((Below.refl _ _).alloc (Nat.le_refl _) _).alloc (by simp) _⟩

end Go.Proofs.Qxb6614537a
