import Derived.Test.Qxb6614577aWalk3
namespace Go.Proofs.Qxb6614577a
open Go.RowKit

set_option maxHeartbeats 400000 in
theorem main_long (a : Option Addr) (n c : Nat) (i j : Int) (w : World) (hn : n ≤ maxLen) (hbig : 65536 < n)
    (hB : Calls Try.prog 5 #[.slice a n c, .int .i64 i, .int .i64 j] w fun e w' => SomeBool e ∧ w = w') :
    Calls Try.prog 3 #[.slice a n c, .int .i64 i, .int .i64 j] w fun e w' => e = .returned (.bool true) ∧ Below w.heap.size w w' := by
  unfold maxLen at hn
  have h4 : (65536 : Int) < n := by omega
  go_enter Try.func3, Try.ntmps3
  go_wp2_with (go_at_call 5; refine hB.mono ?_; rintro e w' ⟨⟨r, rfl⟩, rfl⟩; clear hB)
  all_goals
    go_ret
    exact ⟨rfl, Below.refl _ _⟩

set_option maxHeartbeats 400000 in
theorem main_nil (i j : Int) (w : World) :
    Calls Try.prog 3 #[.slice none 0 0, .int .i64 i, .int .i64 j] w fun e w' => e = .returned (.bool true) ∧ Below w.heap.size w w' := by
  by_cases hi : i < 0
  all_goals
    go_enter Try.func3, Try.ntmps3
    go_wp2_with (go_at_call 5; refine (bytes5_zero none 0 i j _).mono ?_; rintro e w' ⟨⟨r, rfl⟩, rfl⟩)
    · go_ret
      exact ⟨rfl, Below.refl _ _⟩
    · refine wp_loop_rounds 1 ?_
      rw [rounds_succ]
      go_wp2
      go_ret
      exact ⟨rfl, Below.refl _ _⟩

set_option maxHeartbeats 1000000 in
theorem main_row (x : Addr) (n c : Nat) (ss : List ByteArray) (i j : Int) (w : World) (hn : n ≤ 65536) (hl : ss.length = n) (hs : ∀ t, (ss.getD t ByteArray.empty).size ≤ maxLen)
    (hcell : ∀ j v, (scells ss)[j]? = some v → w.cell? (x.add j) = some v)
    (hB : Calls Try.prog 5 #[.slice (some x) n c, .int .i64 i, .int .i64 j] w fun e w' => SomeBool e ∧ w = w') :
    Calls Try.prog 3 #[.slice (some x) n c, .int .i64 i, .int .i64 j] w fun e w' => e = .returned (.bool true) ∧ Below w.heap.size w w' := by
  have hm : n ≤ maxLen := by unfold maxLen; omega
  have h4 : (n : Int) ≤ 65536 := by omega
  obtain ⟨i9, hi9, hz0, hz1, hz2⟩ := info_parts Try.info9
  have HC : Hid (∀ j v, (scells ss)[j]? = some v → w.cell? (x.add j) = some v) := hcell
  have HS : Hid (∀ t, (ss.getD t ByteArray.empty).size ≤ maxLen) := hs
  clear hcell hs
  go_enter Try.func3, Try.ntmps3
  go_wp2_with (first | (go_at_call 5; refine hB.mono ?_; rintro e w' ⟨⟨r, rfl⟩, rfl⟩; clear hB) | (at_make; refine wpList_make_row _ rfl (.tmp 25) (.tmp 25) 22 rfl 9 i9 (.string ByteArray.empty) Try.underlying22 hi9 hz0 hz1 rfl _ _ _ _ n rfl rfl rfl rfl (by rw [hz2]; omega) hm ?_; intro w1 hr1 hb1) | (show wpList _ _ _ (⟨some 29, _, _, _, _, _⟩ :: _) _ _; refine wpList_copy_row rfl (.tmp 27) (.tmp 28) 22 22 rfl 9 Try.underlying22 (by rw [hi9]; simp [hz1]) _ n _ _ _ rfl rfl _ hr1 (by simp) (scells ss) (by simp [scells, hl]) (fun _ => ⟨x, rfl, fun j v h => cell_later hb1 (HC.out j v h)⟩) (oneCell_scells ss) w.heap.size w hb1 (Nat.le_refl _) ?_; intro w2 hr2 hb2))
  · go_ret
    exact ⟨rfl, Below.refl _ _⟩
  · clear hr1 hb1 HC
    go_loop [8, 9] (fun z t => ∃ (k : Nat) (m : Int), k ≤ n ∧ 0 ≤ m ∧ m ≤ 1048576 ∧ z = .int .i64 m ∧ t = .int .i64 k) (fun _ t => n - (intOf t).toNat)
    case atStart => exact ⟨0, 0, Nat.zero_le _, by omega, by omega, rfl, rfl⟩
    case round =>
      obtain ⟨k, m, hk, hm0, hm1, rfl, rfl⟩ := hrel
      by_cases hlt : k < n
      · have hlt' : (k : Int) < n := by omega
        have hck := (hr2.cell k).trans (scells_at ss k (by omega))
        have hsk := HS.out k
        obtain ⟨s, hs⟩ : ∃ s, ss.getD k ByteArray.empty = s := ⟨_, rfl⟩
        rw [hs] at hck hsk
        clear hs
        by_cases h20 : s.size ≤ 1048576
        · have h20' : (s.size : Int) ≤ 1048576 := by omega
          clear hsk
          by_cases hsum : m + ((s.size : Int) + 16) ≤ 1048576
          · go_wp2
            go_round
            case rel => exact ⟨k + 1, m + ((s.size : Int) + 16), by omega, by omega, by omega, rfl, by go_num⟩
            case measure => simp [intOf]; omega
          · go_wp2
            go_ret
            exact ⟨rfl, hb2⟩
        · have h20' : (1048576 : Int) < (s.size : Int) := by omega
          unfold maxLen at hsk
          go_wp2
          go_ret
          exact ⟨rfl, hb2⟩
      · obtain rfl : n = k := by omega
        clear hlt hk
        by_cases hi0 : i < 0
        · go_wp2
          go_ret
          exact ⟨rfl, hb2⟩
        by_cases hi1 : (n : Int) ≤ i
        · go_wp2
          go_ret
          exact ⟨rfl, hb2⟩
        by_cases hj0 : j < 0
        · go_wp2
          go_ret
          exact ⟨rfl, hb2⟩
        by_cases hj1 : (n : Int) ≤ j
        · go_wp2
          go_ret
          exact ⟨rfl, hb2⟩
        obtain ⟨I, rfl⟩ : ∃ I : Nat, i = (I : Int) := ⟨i.toNat, by omega⟩
        obtain ⟨J, rfl⟩ : ∃ J : Nat, j = (J : Int) := ⟨j.toNat, by omega⟩
        have hI : I < n := by omega
        have hJ : J < n := by omega
        have hI' : (I : Int) < n := by omega
        have hJ' : (J : Int) < n := by omega
        have cI := (hr2.cell I).trans (scells_at ss I (by omega))
        have cJ := (hr2.cell J).trans (scells_at ss J (by omega))
        have HR : Hid (∀ t, t < n → w2.cell? ⟨w.heap.size, t, none⟩ = some (.string (ss.getD t ByteArray.empty))) := fun t ht => (hr2.cell t).trans (scells_at ss t (by omega))
        have hlt1 := hr2.lt
        go_wp2_with fail
        go_at_call 6
        refine (by_any _ n n ss w2 hlt1 hn HR.out).mono ?_
        rintro e w3 ⟨rfl, inv⟩
        have dI := inv.syms I hI
        have dJ := inv.syms J hJ
        have cI3 := (inv.below.cell (p := ⟨w.heap.size, I, none⟩) hlt1).trans cI
        have cJ3 := (inv.below.cell (p := ⟨w.heap.size, J, none⟩) hlt1).trans cJ
        have hb3 : Below w.heap.size w w3 := hb2.trans (inv.below.mono hb2.size)
        obtain ⟨sI, HI⟩ : ∃ s, ss.getD I ByteArray.empty = s := ⟨_, rfl⟩
        obtain ⟨sJ, HJ⟩ : ∃ s, ss.getD J ByteArray.empty = s := ⟨_, rfl⟩
        rw [HI] at dI cI3
        rw [HJ] at dJ cJ3
        have DI : Hid (w3.cell? ⟨w2.heap.size, 9 * I, none⟩ = some (.string sI)) := dI
        have DJ : Hid (w3.cell? ⟨w2.heap.size, 9 * J, none⟩ = some (.string sJ)) := dJ
        have hboth := lessS_both sI sJ
        have heither := lessS_either sI sJ
        clear HI HJ dI dJ cI cJ HR inv hr2 hb2 hlt1 HS
        cases hA : lessS sI sJ <;> cases hB : lessS sJ sI
        case true.true => exact (hboth hA hB).elim
        all_goals
          rw [hA, hB] at heither
          clear hboth
          unfold diffS at heither
          go_wp2_with fail
          go_at_call 7
          refine (less_any _ n n I J sI sJ w3 hI hJ DI.out DJ.out).mono ?_
          rintro e w4 ⟨rfl, m1, rfl⟩
          go_wp2_with fail
          go_at_call 7
          refine (less_any _ n n J I sJ sI (w3.drewN m1) hJ hI DJ.out DI.out).mono ?_
          rintro e w4 ⟨rfl, m2, rfl⟩
          go_wp2_with fail
          go_quiet (fail)
          go_wp2
          go_ret
          exact ⟨rfl, below_drewN hb3 _⟩
end Go.Proofs.Qxb6614577a
