import Derived.Test.Qxb6614577aCallees
namespace Go.Proofs.Qxb6614577a
open Go.RowKit

theorem Try.info9 : (Try.prog.info? 9).map (fun i => (i.zero, i.size, i.bytes)) = some (some (.string ByteArray.empty), 1, 16) := by kernel_rfl

/-- The call has come back with a bool. -/
def SomeBool (e : Ending) : Prop := ∃ r, e = .returned (.bool r)

def scells (ss : List ByteArray) : List Value := ss.map Value.string
theorem scells_at (ss : List ByteArray) (j : Nat) (h : j < ss.length) : (scells ss)[j]? = some (.string (ss.getD j ByteArray.empty)) := by
  simp [scells, List.getElem?_map, List.getElem?_eq_getElem h, List.getD]
theorem oneCell_scells (ss : List ByteArray) : ∀ v ∈ scells ss, v.oneCell' = true := by
  intro v hv
  simp only [scells, List.mem_map] at hv
  obtain ⟨z, _, rfl⟩ := hv
  rfl

set_option maxHeartbeats 400000 in
theorem bytes5_long (a : Option Addr) (n c : Nat) (i j : Int) (w : World) (hn : n ≤ maxLen) (h : 1048576 < n) :
    Calls Try.prog 5 #[.slice a n c, .int .i64 i, .int .i64 j] w fun e w' => SomeBool e ∧ w = w' := by
  unfold maxLen at hn
  have h' : (1048576 : Int) < n := by omega
  go_enter Try.func5, Try.ntmps5
  go_wp2
  go_ret
  exact ⟨⟨_, rfl⟩, rfl⟩

set_option maxHeartbeats 400000 in
theorem bytes5_zero (a : Option Addr) (c : Nat) (i j : Int) (w : World) :
    Calls Try.prog 5 #[.slice a 0 c, .int .i64 i, .int .i64 j] w fun e w' => SomeBool e ∧ w = w' := by
  go_enter Try.func5, Try.ntmps5
  go_wp2
  refine wp_loop_rounds 1 ?_
  rw [rounds_succ]
  go_wp2
  go_ret
  exact ⟨⟨_, rfl⟩, rfl⟩

set_option maxHeartbeats 400000 in
theorem bytes5_row (b off n c : Nat) (ss : List ByteArray) (i j : Int) (w : World) (hn : n ≤ 1048576) (hs : ∀ t, (ss.getD t ByteArray.empty).size ≤ maxLen)
    (hc : ∀ t, t < n → w.cell? ⟨b, off + t, none⟩ = some (.string (ss.getD t ByteArray.empty))) :
    Calls Try.prog 5 #[.slice (some ⟨b, off, none⟩) n c, .int .i64 i, .int .i64 j] w fun e w' => SomeBool e ∧ w = w' := by
  have h' : (n : Int) ≤ 1048576 := by omega
  have HC : Hid (∀ t, t < n → w.cell? ⟨b, off + t, none⟩ = some (.string (ss.getD t ByteArray.empty))) := hc
  have HS : Hid (∀ t, (ss.getD t ByteArray.empty).size ≤ maxLen) := hs
  clear hc hs
  go_enter Try.func5, Try.ntmps5
  go_wp2
  go_loop [7, 8] (fun z t => ∃ k m : Nat, k ≤ n ∧ m ≤ 1048576 ∧ z = .int .i64 m ∧ t = .int .i64 k) (fun _ t => n - (intOf t).toNat)
  case atStart => exact ⟨0, n, Nat.zero_le _, hn, rfl, rfl⟩
  case round =>
    obtain ⟨k, m, hk, hm, rfl, rfl⟩ := hrel
    by_cases hlt : k < n
    · have hlt' : (k : Int) < n := by omega
      have hck := HC.out k hlt
      have hsk := HS.out k
      obtain ⟨s, hs⟩ : ∃ s, ss.getD k ByteArray.empty = s := ⟨_, rfl⟩
      rw [hs] at hck hsk
      unfold maxLen at hsk
      clear hs
      go_wp2
      · go_ret
        exact ⟨⟨_, rfl⟩, rfl⟩
      · go_ret
        exact ⟨⟨_, rfl⟩, rfl⟩
      · go_round
        case rel => exact ⟨k + 1, m + s.size, by omega, by omega, by go_num, by go_num⟩
        case measure => simp [intOf]; omega
    · go_wp2
      go_ret
      exact ⟨⟨_, rfl⟩, rfl⟩
end Go.Proofs.Qxb6614577a
