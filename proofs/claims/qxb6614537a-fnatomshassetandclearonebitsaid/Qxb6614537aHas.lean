/- The callees that two laws share: zzBytes (6, 8), has (11), ZZatomsHas (7). -/
import Derived.Test.Qxb6614537aRows
import Derived.Test.Qxb6614537aKit
import Derived.Test.Qxb6614537aPlain
import Derived.Deep.QuietTactic
import Derived.BigQuiet
namespace Go.Proofs.Qxb6614537a
open Go.RowKit

theorem Try.info24 : (Try.prog.info? 24).map (fun i => (i.zero, i.size, i.bytes)) = some (some (.int .u64 0), 1, 8) := by kernel_rfl

set_option maxHeartbeats 400000 in
theorem bytes6_any (a : Option Addr) (n c : Nat) (w : World) (hn : n ≤ maxLen) :
    Calls Try.prog 6 #[.slice a n c] w fun e w' => e = .returned (.bool (decide (n ≤ 1048576))) ∧ w = w' := by
  unfold maxLen at hn
  by_cases h : n ≤ 1048576
  · have h' : ((n : Int) ≤ 1048576) := by omega
    go_enter Try.func6, Try.ntmps6
    go_wp2
    go_ret
    exact ⟨by simp [h], rfl⟩
  · have h' : (1048576 : Int) < n := by omega
    go_enter Try.func6, Try.ntmps6
    go_wp2
    go_ret
    exact ⟨by simp [h], rfl⟩

set_option maxHeartbeats 400000 in
theorem bytes8_any (a : Option Addr) (n c : Nat) (j : Int) (w : World) (hn : n ≤ maxLen) :
    Calls Try.prog 8 #[.slice a n c, .int .i64 j] w fun e w' => e = .returned (.bool (decide (n ≤ 1048576))) ∧ w = w' := by
  unfold maxLen at hn
  by_cases h : n ≤ 1048576
  · have h' : ((n : Int) ≤ 1048576) := by omega
    go_enter Try.func8, Try.ntmps8
    go_wp2
    go_ret
    exact ⟨by simp [h], rfl⟩
  · have h' : (1048576 : Int) < n := by omega
    go_enter Try.func8, Try.ntmps8
    go_wp2
    go_ret
    exact ⟨by simp [h], rfl⟩

set_option maxHeartbeats 400000 in
theorem has_any (g n c i Z : Nat) (w : World) (hi : i < 64 * n) (hn : n ≤ 4096) (hZ : Z < 18446744073709551616)
    (hcell : w.cell? ⟨g, i / 64, none⟩ = some (.int .u64 (Z : Int))) :
    Calls Try.prog 11 #[.slice (some ⟨g, 0, none⟩) n c, .int .i64 (i : Int)] w fun e w' => e = .returned (.bool (hasB Z i)) ∧ ∃ m, w' = w.drewN m := by
  have h0 : (0 : Int) ≤ (i : Int) / 64 := by omega
  have h1 : (i : Int) / 64 < (n : Int) := by omega
  have h2 : (0 : Int) ≤ (i : Int) % 64 := by omega
  have h3 : (i : Int) % 64 ≤ 64 := by omega
  have HT : Hid ((bits .and .u64 (Z : Int) (IntKind.u64.wrap ((2 : Int) ^ (i % 64))) != 0) = hasB Z i) := and_test Z (i % 64) hZ (Nat.mod_lt _ (by decide))
  clear hZ
  go_enter Try.func11, Try.ntmps11
  go_wp2
  go_quiet (fail)
  go_wp2
  go_ret
  exact ⟨by rw [← HT.out]; rfl, _, rfl⟩

set_option maxHeartbeats 400000 in
theorem zzhas_any (g n c i Z : Nat) (w : World) (hi : i < 64 * n) (hn : n ≤ 4096) (hZ : Z < 18446744073709551616)
    (hcell : w.cell? ⟨g, i / 64, none⟩ = some (.int .u64 (Z : Int))) :
    Calls Try.prog 7 #[.slice (some ⟨g, 0, none⟩) n c, .int .i64 (i : Int)] w fun e w' => e = .returned (.bool (hasB Z i)) ∧ ∃ m, w' = w.drewN m := by
  go_enter Try.func7, Try.ntmps7
  go_wp2_with (go_at_call 11; refine (has_any g n c i Z _ hi hn hZ hcell).mono ?_; rintro e w' ⟨rfl, m, rfl⟩)
  go_ret
  exact ⟨rfl, _, rfl⟩

/-- The same, the index as the caller spells it. -/
theorem zzhas_at (g n c i Z : Nat) (I : Int) (w : World) (hI : I = (i : Int)) (hi : i < 64 * n) (hn : n ≤ 4096) (hZ : Z < 18446744073709551616)
    (hcell : w.cell? ⟨g, i / 64, none⟩ = some (.int .u64 (Z : Int))) :
    Calls Try.prog 7 #[.slice (some ⟨g, 0, none⟩) n c, .int .i64 I] w fun e w' => e = .returned (.bool (hasB Z i)) ∧ ∃ m, w' = w.drewN m := by
  subst hI
  exact zzhas_any g n c i Z w hi hn hZ hcell

end Go.Proofs.Qxb6614537a
