import Derived.Test.Qxb6614537aHas
namespace Go.Proofs.Qxb6614537a
open Go.RowKit

/-- The cells of a row of words. -/
def words (Zs : List Nat) : List Value := Zs.map fun (z : Nat) => Value.int .u64 (z : Int)

theorem words_at (Zs : List Nat) (j : Nat) (h : j < Zs.length) : (words Zs)[j]? = some (.int .u64 ((Zs.getD j 0 : Nat) : Int)) := by
  simp [words, List.getElem?_map, List.getElem?_eq_getElem h, List.getD]

theorem oneCell_words (Zs : List Nat) : ∀ v ∈ words Zs, v.oneCell' = true := by
  intro v hv
  simp only [words, List.mem_map] at hv
  obtain ⟨z, _, rfl⟩ := hv
  rfl

/-- The first n numbers of a row that came in, as natural numbers. -/
def natsOf (zs : List Int) (n : Nat) : List Nat := (zs.take n).map Int.toNat

theorem natsOf_length (zs : List Int) (n : Nat) (h : n ≤ zs.length) : (natsOf zs n).length = n := by simp [natsOf]; omega

theorem u64_bounds {z : Int} (h : (Lit.int .u64 z).wf = true) : 0 ≤ z ∧ z < 18446744073709551616 := by
  simp [Lit.wf, IntKind.min, IntKind.max, IntKind.bits, IntKind.signed] at h
  omega

theorem natsOf_lt (zs : List Int) (n : Nat) (hw : ∀ z ∈ zs, (Lit.int .u64 z).wf = true) (j : Nat) : (natsOf zs n).getD j 0 < 18446744073709551616 := by
  unfold natsOf
  simp only [List.getD, List.getElem?_map]
  cases h : (zs.take n)[j]? with
  | none => simp
  | some z =>
    have hz : z ∈ zs := List.mem_of_mem_take (List.mem_of_getElem? h)
    have := u64_bounds (hw z hz)
    simp
    omega

theorem natsOf_cells {x : Addr} {w : World} (zs : List Int) (n : Nat) (hw : ∀ z ∈ zs, (Lit.int .u64 z).wf = true)
    (hc : ∀ i, i < zs.length → w.cell? (x.add i) = some (.int .u64 (zs.getD i 0))) (j : Nat) (v : Value) (h : (words (natsOf zs n))[j]? = some v) : w.cell? (x.add j) = some v := by
  unfold words natsOf at h
  simp only [List.getElem?_map, Option.map_map] at h
  cases hz : (zs.take n)[j]? with
  | none => rw [hz] at h; simp at h
  | some z =>
    rw [hz] at h
    simp at h
    rw [List.getElem?_take] at hz
    split at hz
    · have hj : j < zs.length := (List.getElem?_eq_some_iff.1 hz).1
      have hb := u64_bounds (hw z (List.mem_of_getElem? hz))
      rw [hc j hj, ← h]
      simp [List.getD, hz]
      omega
    · simp at hz

set_option maxHeartbeats 400000 in
theorem walk3_short (a : Option Addr) (n c : Nat) (w : World) (hn : n ≤ maxLen) (hbig : 4096 < n) :
    Calls Try.prog 3 #[.slice a n c] w fun e w' => e = .returned (.bool true) ∧ Below w.heap.size w w' := by
  have hn' := hn
  unfold maxLen at hn'
  have h4 : (4096 : Int) < n := by omega
  by_cases h20 : n ≤ 1048576
  · go_enter Try.func3, Try.ntmps3
    go_wp2_with (go_at_call 6; refine (bytes6_any _ _ _ _ hn).mono ?_; rintro e w' ⟨rfl, rfl⟩)
    go_ret
    exact ⟨rfl, Below.refl _ _⟩
  · go_enter Try.func3, Try.ntmps3
    go_wp2_with (go_at_call 6; refine (bytes6_any _ _ _ _ hn).mono ?_; rintro e w' ⟨rfl, rfl⟩)
    go_ret
    exact ⟨rfl, Below.refl _ _⟩

set_option maxHeartbeats 400000 in
theorem walk3_nil (w : World) :
    Calls Try.prog 3 #[.slice none 0 0] w fun e w' => e = .returned (.bool true) ∧ Below w.heap.size w w' := by
  go_enter Try.func3, Try.ntmps3
  go_wp2_with (go_at_call 6; refine (bytes6_any _ _ _ _ (by decide)).mono ?_; rintro e w' ⟨rfl, rfl⟩)
  refine wp_loop_rounds 1 ?_
  rw [rounds_succ]
  go_wp2
  go_ret
  exact ⟨rfl, Below.refl _ _⟩

set_option maxHeartbeats 400000 in
theorem walk3_row (x : Addr) (n c : Nat) (Zs : List Nat) (w : World) (hn : n ≤ 4096) (hZs : Zs.length = n) (hZ : ∀ j, Zs.getD j 0 < 18446744073709551616)
    (hcell : ∀ j v, (words Zs)[j]? = some v → w.cell? (x.add j) = some v) :
    Calls Try.prog 3 #[.slice (some x) n c] w fun e w' => e = .returned (.bool true) ∧ Below w.heap.size w w' := by
  have hm : n ≤ maxLen := by unfold maxLen; omega
  have h4 : (n : Int) ≤ 4096 := by omega
  have h20 : n ≤ 1048576 := by omega
  obtain ⟨i24, hi, hz0, hz1, hz2⟩ := info_parts Try.info24
  have HC : Hid (∀ j v, (words Zs)[j]? = some v → w.cell? (x.add j) = some v) := hcell
  clear hcell
  go_enter Try.func3, Try.ntmps3
  go_wp2_with (first | (go_at_call 6; refine (bytes6_any _ _ _ _ hm).mono ?_; rintro e w' ⟨rfl, rfl⟩) | (at_make; refine wpList_make_row _ rfl _ _ 22 rfl 24 i24 (.int .u64 0) Try.underlying22 hi hz0 hz1 rfl _ _ _ _ n rfl rfl rfl rfl (by rw [hz2]; omega) hm ?_; intro w1 hr1 hb1) | (refine wpList_copy_row rfl (.tmp 18) (.tmp 19) 22 22 rfl 24 Try.underlying22 (by rw [hi]; simp [hz1]) _ n _ _ _ rfl rfl _ hr1 (by simp) (words Zs) (by simp [words, hZs]) (fun _ => ⟨x, rfl, fun j v h => cell_later hb1 (HC.out j v h)⟩) (oneCell_words Zs) w.heap.size w hb1 (Nat.le_refl _) ?_; intro w2 hr2 hb2))
  clear hr1 hb1 HC
  go_loopw [4] (fun i wr => ∃ k : Nat, k ≤ n ∧ i = .int .i64 k ∧ HasRow wr w.heap.size 24 (words Zs) ∧ Below w.heap.size w wr) (fun i _ => n - (intOf i).toNat)
  case atStart => exact ⟨0, Nat.zero_le _, rfl, hr2, hb2⟩
  case round =>
    obtain ⟨k, hk, rfl, hr, hb⟩ := hrel
    by_cases hlt : k < n
    · have hZk := hZ k
      have hcw := words_at Zs k (by omega)
      obtain ⟨Z, HZ⟩ : ∃ Z, Zs.getD k 0 = Z := ⟨_, rfl⟩
      rw [HZ] at hZk hcw
      clear HZ hZ hr2 hb2
      go_wp2
      go_loopw [5, 6] (fun u b wq => ∃ m : Nat, m ≤ 64 ∧ b = .int .i64 m ∧ u = .int .u64 (low Z m : Int) ∧ HasRow wq w.heap.size 24 (words Zs) ∧ Below w.heap.size w wq) (fun _ b _ => 64 - (intOf b).toNat)
      case atStart => exact ⟨0, Nat.zero_le _, rfl, by rw [low_zero]; rfl, hr, hb⟩
      case round =>
        obtain ⟨m, hm, rfl, rfl, hrq, hbq⟩ := hrel
        by_cases hm64 : m < 64
        · have hcz : Hid (wr.cell? ⟨w.heap.size, (64 * k + m) / 64, none⟩ = some (.int .u64 (Z : Int))) := by
            show _ = _
            rw [show (64 * k + m) / 64 = k by omega, hrq.cell k, hcw]
          cases hh : hasB Z (64 * k + m)
          · go_wp2_with (go_at_call 7; refine (zzhas_at _ n n (64 * k + m) Z _ _ (by omega) (by omega) hn hZk hcz.out).mono ?_; rintro e w' ⟨rfl, md, rfl⟩)
            go_roundw
            case rel => exact ⟨m + 1, by omega, by go_num, by rw [low_no Z k m hm64 hh], hrq.drewN _, below_drewN hbq _⟩
            case measure => simp [intOf]; omega
          · go_wp2_with (go_at_call 7; refine (zzhas_at _ n n (64 * k + m) Z _ _ (by omega) (by omega) hn hZk hcz.out).mono ?_; rintro e w' ⟨rfl, md, rfl⟩)
            go_roundw
            case rel => exact ⟨m + 1, by omega, by go_num, by rw [← low_yes Z k m hm64 hh], hrq.drewN _, below_drewN hbq _⟩
            case measure => simp [intOf]; omega
        · obtain rfl : m = 64 := by omega
          have hl := low_all Z hZk
          have hck : wr.cell? ⟨w.heap.size, k, none⟩ = some (.int .u64 (Z : Int)) := by rw [hrq.cell k, hcw]
          clear hm64 hm
          go_wp2
          go_roundw
          case rel => exact ⟨k + 1, by omega, by go_num, hrq, hbq⟩
          case measure => simp [intOf]; omega
    · go_wp2
      go_ret
      exact ⟨rfl, hb⟩
end Go.Proofs.Qxb6614537a
