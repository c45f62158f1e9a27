import Derived.Test.Qxb6614537aWalk3
import Derived.Test.Qxb6614537aPlain4
namespace Go.Proofs.Qxb6614537a
open Go.RowKit

theorem words_set (As : List Nat) (k z : Nat) : (words As).set k (.int .u64 (z : Int)) = words (As.set k z) := by
  simp [words, List.map_set]

theorem words_zero (n : Nat) : List.replicate n (Value.int .u64 0) = words (List.replicate n 0) := by
  simp [words]

/-- The three rows of the call's own: a's copy, the one in which a bit is set, the one in which it is cleared. -/
structure Inv (w : World) (g1 g2 g3 : Nat) (Zs As Bs : List Nat) (wr : World) : Prop where
  lt1 : w.heap.size ≤ g1
  lt12 : g1 < g2
  lt23 : g2 < g3
  r1 : HasRow wr g1 24 (words Zs)
  r2 : HasRow wr g2 24 (words As)
  r3 : HasRow wr g3 24 (words Bs)
  below : Below w.heap.size w wr

theorem Inv.drewN {w : World} {g1 g2 g3 : Nat} {Zs As Bs : List Nat} {wr : World} (h : Inv w g1 g2 g3 Zs As Bs wr) (m : Nat) : Inv w g1 g2 g3 Zs As Bs (wr.drewN m) :=
  ⟨h.lt1, h.lt12, h.lt23, h.r1.drewN m, h.r2.drewN m, h.r3.drewN m, below_drewN h.below m⟩

theorem Inv.store2 {w : World} {g1 g2 g3 : Nat} {Zs As Bs : List Nat} {wr : World} (h : Inv w g1 g2 g3 Zs As Bs wr) (k z : Nat) : Inv w g1 g2 g3 Zs (As.set k z) Bs (wr.setCell ⟨g2, k, none⟩ (.int .u64 (z : Int))) := by
  have h12 := h.lt12
  have h23 := h.lt23
  have h1 := h.lt1
  refine ⟨h.lt1, h.lt12, h.lt23, h.r1.setCell_other _ _ (show g1 ≠ g2 by omega), ?_, h.r3.setCell_other _ _ (show g3 ≠ g2 by omega), h.below.setCell (show w.heap.size ≤ g2 by omega) _⟩
  have := h.r2.setCell k (.int .u64 (z : Int))
  rw [words_set] at this
  exact this

theorem Inv.store3 {w : World} {g1 g2 g3 : Nat} {Zs As Bs : List Nat} {wr : World} (h : Inv w g1 g2 g3 Zs As Bs wr) (k z : Nat) : Inv w g1 g2 g3 Zs As (Bs.set k z) (wr.setCell ⟨g3, k, none⟩ (.int .u64 (z : Int))) := by
  have h12 := h.lt12
  have h23 := h.lt23
  have h1 := h.lt1
  refine ⟨h.lt1, h.lt12, h.lt23, h.r1.setCell_other _ _ (show g1 ≠ g3 by omega), h.r2.setCell_other _ _ (show g2 ≠ g3 by omega), ?_, h.below.setCell (show w.heap.size ≤ g3 by omega) _⟩
  have := h.r3.setCell k (.int .u64 (z : Int))
  rw [words_set] at this
  exact this

set_option maxHeartbeats 400000 in
theorem walk4_long (a : Option Addr) (n c : Nat) (j : Int) (w : World) (hn : n ≤ maxLen) (hbig : 4096 < n) :
    Calls Try.prog 4 #[.slice a n c, .int .i64 j] w fun e w' => e = .returned (.bool true) ∧ Below w.heap.size w w' := by
  have hn' := hn
  unfold maxLen at hn'
  have h4 : (4096 : Int) < n := by omega
  by_cases h20 : n ≤ 1048576
  · go_enter Try.func4, Try.ntmps4
    go_wp2_with (go_at_call 8; refine (bytes8_any _ _ _ _ _ hn).mono ?_; rintro e w' ⟨rfl, rfl⟩)
    go_ret
    exact ⟨rfl, Below.refl _ _⟩
  · go_enter Try.func4, Try.ntmps4
    go_wp2_with (go_at_call 8; refine (bytes8_any _ _ _ _ _ hn).mono ?_; rintro e w' ⟨rfl, rfl⟩)
    go_ret
    exact ⟨rfl, Below.refl _ _⟩

set_option maxHeartbeats 400000 in
theorem walk4_neg (a : Option Addr) (n c : Nat) (j : Int) (w : World) (hn : n ≤ 4096) (hj : j < 0) :
    Calls Try.prog 4 #[.slice a n c, .int .i64 j] w fun e w' => e = .returned (.bool true) ∧ Below w.heap.size w w' := by
  have hm : n ≤ maxLen := by unfold maxLen; omega
  have h4 : (n : Int) ≤ 4096 := by omega
  have h20 : n ≤ 1048576 := by omega
  go_enter Try.func4, Try.ntmps4
  go_wp2_with (go_at_call 8; refine (bytes8_any _ _ _ _ _ hm).mono ?_; rintro e w' ⟨rfl, rfl⟩)
  go_ret
  exact ⟨rfl, Below.refl _ _⟩

set_option maxHeartbeats 400000 in
theorem walk4_past (a : Option Addr) (n c : Nat) (j : Int) (w : World) (hn : n ≤ 4096) (hj0 : 0 ≤ j) (hj : 64 * (n : Int) ≤ j) :
    Calls Try.prog 4 #[.slice a n c, .int .i64 j] w fun e w' => e = .returned (.bool true) ∧ Below w.heap.size w w' := by
  have hm : n ≤ maxLen := by unfold maxLen; omega
  have h4 : (n : Int) ≤ 4096 := by omega
  have h20 : n ≤ 1048576 := by omega
  go_enter Try.func4, Try.ntmps4
  go_wp2_with (go_at_call 8; refine (bytes8_any _ _ _ _ _ hm).mono ?_; rintro e w' ⟨rfl, rfl⟩)
  go_ret
  exact ⟨rfl, Below.refl _ _⟩

set_option maxHeartbeats 800000 in
theorem walk4_row (x : Addr) (n c J : Nat) (Zs : List Nat) (w : World) (hn : n ≤ 4096) (hJ : J < 64 * n) (hZs : Zs.length = n) (hZ : ∀ j, Zs.getD j 0 < 18446744073709551616)
    (hcell : ∀ j v, (words Zs)[j]? = some v → w.cell? (x.add j) = some v) :
    Calls Try.prog 4 #[.slice (some x) n c, .int .i64 (J : Int)] w fun e w' => e = .returned (.bool true) ∧ Below w.heap.size w w' := by
  have hm : n ≤ maxLen := by unfold maxLen; omega
  have h4 : (n : Int) ≤ 4096 := by omega
  have h20 : n ≤ 1048576 := by omega
  have hJ0 : (0 : Int) ≤ J := by omega
  have hJn : (J : Int) < 64 * n := by omega
  obtain ⟨i24, hi, hz0, hz1, hz2⟩ := info_parts Try.info24
  have HC : Hid (∀ j v, (words Zs)[j]? = some v → w.cell? (x.add j) = some v) := hcell
  have HZ : Hid (∀ j, Zs.getD j 0 < 18446744073709551616) := hZ
  clear hcell hZ
  go_enter Try.func4, Try.ntmps4
  go_wp2_with (first | (go_at_call 8; refine (bytes8_any _ _ _ _ _ hm).mono ?_; rintro e w' ⟨rfl, rfl⟩) | (at_make; refine wpList_make_row _ rfl (.tmp 31) (.tmp 31) 22 rfl 24 i24 (.int .u64 0) Try.underlying22 hi hz0 hz1 rfl _ _ _ _ n rfl rfl rfl rfl (by rw [hz2]; omega) hm ?_; intro w1 hr1 hb1) | (show wpList _ _ _ (⟨some 35, _, _, _, _, _⟩ :: _) _ _; refine wpList_copy_row rfl (.tmp 33) (.tmp 34) 22 22 rfl 24 Try.underlying22 (by rw [hi]; simp [hz1]) _ n _ _ _ rfl rfl _ hr1 (by simp) (words Zs) (by simp [words, hZs]) (fun _ => ⟨x, rfl, fun j v h => cell_later hb1 (HC.out j v h)⟩) (oneCell_words Zs) w.heap.size w hb1 (Nat.le_refl _) ?_; intro w2 hr2 hb2) | (at_make; refine wpList_make_row _ rfl (.tmp 38) (.tmp 38) 22 rfl 24 i24 (.int .u64 0) Try.underlying22 hi hz0 hz1 rfl _ _ _ _ n rfl rfl rfl rfl (by rw [hz2]; omega) hm ?_; intro w3 hr3 hb3) | (at_make; refine wpList_make_row _ rfl (.tmp 41) (.tmp 41) 22 rfl 24 i24 (.int .u64 0) Try.underlying22 hi hz0 hz1 rfl _ _ _ _ n rfl rfl rfl rfl (by rw [hz2]; omega) hm ?_; intro w4 hr4 hb4))
  have inv0 : Inv w w.heap.size w2.heap.size w3.heap.size Zs (List.replicate Zs.length 0) (List.replicate Zs.length 0) w4 := by
    have l12 := hr2.lt
    have l23 := hr3.lt
    rw [hZs]
    rw [words_zero] at hr3 hr4
    exact ⟨Nat.le_refl _, l12, l23, (hr2.below hb3 l12).below hb4 (by omega), hr3.below hb4 l23, hr4, (hb2.trans (hb3.mono (by omega))).trans (hb4.mono (by omega))⟩
  clear hr1 hb1 HC hr2 hb2 hr3 hb3 hr4 hb4
  go_loopw [8] (fun i wr => ∃ (k : Nat) (As Bs : List Nat), k ≤ n ∧ i = .int .i64 k ∧ Agree Zs As k ∧ Agree Zs Bs k ∧ Inv w w.heap.size w2.heap.size w3.heap.size Zs As Bs wr) (fun i _ => n - (intOf i).toNat)
  case atStart => exact ⟨0, _, _, Nat.zero_le _, rfl, agree_zero Zs, agree_zero Zs, inv0⟩
  case round =>
    clear inv0
    obtain ⟨k, As, Bs, hk, rfl, hA, hB, inv⟩ := hrel
    have l12 := inv.lt12
    have l23 := inv.lt23
    have n12 : ¬ w.heap.size = w2.heap.size := by omega
    have n13 : ¬ w.heap.size = w3.heap.size := by omega
    have n23 : ¬ w2.heap.size = w3.heap.size := by omega
    have hAl := hA.1
    have hBl := hB.1
    by_cases hlt : k < n
    · have c1 := (inv.r1.cell k).trans (words_at Zs k (by omega))
      have c2 := (inv.r2.cell k).trans (words_at As k (by omega))
      have c3 := (inv.r3.cell k).trans (words_at Bs k (by omega))
      have f2 := inv.r2.frozen k
      have f3 := inv.r3.frozen k
      have A' := agree_succ hA (by omega)
      have B' := agree_succ hB (by omega)
      have inv' := (inv.store2 k (Zs.getD k 0)).store3 k (Zs.getD k 0)
      obtain ⟨Z, HZk⟩ : ∃ Z, Zs.getD k 0 = Z := ⟨_, rfl⟩
      obtain ⟨A0, HA0⟩ : ∃ Z, As.getD k 0 = Z := ⟨_, rfl⟩
      obtain ⟨B0, HB0⟩ : ∃ Z, Bs.getD k 0 = Z := ⟨_, rfl⟩
      rw [HZk] at c1 A' B' inv'
      rw [HA0] at c2
      rw [HB0] at c3
      clear HZk HA0 HB0 inv hA hB
      go_wp2
      go_roundw
      case rel => exact ⟨k + 1, _, _, by omega, by go_num, A', B', inv'⟩
      case measure => simp [intOf]; omega
    · obtain rfl : n = k := by omega
      rw [← hZs] at hA hB
      rw [agree_all hA, agree_all hB] at inv
      have hq : J / 64 < n := by omega
      have q0 : (0 : Int) ≤ (J : Int) / 64 := by omega
      have q1 : (J : Int) / 64 < (n : Int) := by omega
      have m0 : (0 : Int) ≤ (J : Int) % 64 := by omega
      have m1 : (J : Int) % 64 < 64 := by omega
      have c2 := (inv.r2.cell (J / 64)).trans (words_at Zs (J / 64) (by omega))
      have c3 := (inv.r3.cell (J / 64)).trans (words_at Zs (J / 64) (by omega))
      have f2 := inv.r2.frozen (J / 64)
      have f3 := inv.r3.frozen (J / 64)
      have hZJ := HZ.out (J / 64)
      have bs := bits_setW (Zs.getD (J / 64) 0) J hZJ
      have bc := bits_clrW (Zs.getD (J / 64) 0) J hZJ
      have inv' : Inv w w.heap.size w2.heap.size w3.heap.size Zs (setAll Zs J) (clrAll Zs J) _ := (inv.store2 (J / 64) (setW (Zs.getD (J / 64) 0) J)).store3 (J / 64) (clrW (Zs.getD (J / 64) 0) J)
      obtain ⟨Z, HZk⟩ : ∃ Z, Zs.getD (J / 64) 0 = Z := ⟨_, rfl⟩
      rw [HZk] at c2 c3 bs bc inv'
      clear HZk inv hA hB hAl hBl hlt hk hZJ
      go_wp2
      clear c2 c3 f2 f3 bs bc
      go_loopw [10] (fun t wr => ∃ i : Nat, i ≤ 64 * n ∧ t = .int .i64 i ∧ Inv w w.heap.size w2.heap.size w3.heap.size Zs (setAll Zs J) (clrAll Zs J) wr) (fun t _ => 64 * n - (intOf t).toNat)
      case atStart => exact ⟨0, Nat.zero_le _, rfl, inv'⟩
      case round =>
        clear inv'
        obtain ⟨i, hi64, rfl, inv⟩ := hrel
        by_cases hlt : i < 64 * n
        · have hlt' : (i : Int) < 64 * (n : Int) := by omega
          have l2 := setAll_length Zs J
          have l3 := clrAll_length Zs J
          have c1 := (inv.r1.cell (i / 64)).trans (words_at _ (i / 64) (by omega))
          have c2 := (inv.r2.cell (i / 64)).trans (words_at _ (i / 64) (by omega))
          have c3 := (inv.r3.cell (i / 64)).trans (words_at _ (i / 64) (by omega))
          have z1 := HZ.out (i / 64)
          have z2 := setAll_lt Zs J (by omega) HZ.out (i / 64)
          have z3 := clrAll_lt Zs J (by omega) HZ.out (i / 64)
          have e2 := has_set Zs J i (by omega)
          have e3 := has_clr Zs J i (by omega)
          obtain ⟨Z1, H1⟩ : ∃ Z, Zs.getD (i / 64) 0 = Z := ⟨_, rfl⟩
          obtain ⟨Z2, H2⟩ : ∃ Z, (setAll Zs J).getD (i / 64) 0 = Z := ⟨_, rfl⟩
          obtain ⟨Z3, H3⟩ : ∃ Z, (clrAll Zs J).getD (i / 64) 0 = Z := ⟨_, rfl⟩
          rw [H1] at c1 z1 e2 e3
          rw [H2] at c2 z2 e2
          rw [H3] at c3 z3 e3
          have C1 : Hid (wr.cell? ⟨w.heap.size, i / 64, none⟩ = some (.int .u64 (Z1 : Int)) ∧ Z1 < 18446744073709551616) := ⟨c1, z1⟩
          have C2 : Hid (wr.cell? ⟨w2.heap.size, i / 64, none⟩ = some (.int .u64 (Z2 : Int)) ∧ Z2 < 18446744073709551616) := ⟨c2, z2⟩
          have C3 : Hid (wr.cell? ⟨w3.heap.size, i / 64, none⟩ = some (.int .u64 (Z3 : Int)) ∧ Z3 < 18446744073709551616) := ⟨c3, z3⟩
          clear H1 H2 H3 c1 c2 c3 z1 z2 z3 l2 l3
          by_cases hij : i = J
          · subst hij
            simp only [decide_true, Bool.or_true, Bool.and_false, Bool.not_true] at e2 e3
            cases hb : hasB Z1 i
            all_goals
              go_wp2_with fail
              go_at_call 7
              refine (zzhas_at _ n n i Z1 _ _ rfl hlt hn C1.out.2 C1.out.1).mono ?_
              rintro e w' ⟨rfl, md1, rfl⟩
              go_wp2_with fail
              go_at_call 7
              refine (zzhas_at _ n n i Z2 _ (wr.drewN md1) rfl hlt hn C2.out.2 C2.out.1).mono ?_
              rintro e w' ⟨rfl, md2, rfl⟩
              go_wp2_with fail
              go_at_call 7
              refine (zzhas_at _ n n i Z3 _ (wr.drewN (md1 + md2)) rfl hlt hn C3.out.2 C3.out.1).mono ?_
              rintro e w' ⟨rfl, md3, rfl⟩
              go_wp2
              go_roundw
              case rel => exact ⟨i + 1, by omega, by go_num, inv.drewN _⟩
              case measure => simp [intOf]; omega
          · have hd : ((i : Int) == (J : Int)) = false := by simp; omega
            have hd' : ((i : Int) != (J : Int)) = true := by simp; omega
            simp only [hij, decide_false, Bool.or_false, Bool.and_true, Bool.not_false] at e2 e3
            cases hb : hasB Z1 i
            all_goals
              rw [hb] at e2 e3
              go_wp2_with fail
              go_at_call 7
              refine (zzhas_at _ n n i Z1 _ _ rfl hlt hn C1.out.2 C1.out.1).mono ?_
              rintro e w' ⟨rfl, md1, rfl⟩
              go_wp2_with fail
              go_at_call 7
              refine (zzhas_at _ n n i Z2 _ (wr.drewN md1) rfl hlt hn C2.out.2 C2.out.1).mono ?_
              rintro e w' ⟨rfl, md2, rfl⟩
              go_wp2_with fail
              go_at_call 7
              refine (zzhas_at _ n n i Z3 _ (wr.drewN (md1 + md2)) rfl hlt hn C3.out.2 C3.out.1).mono ?_
              rintro e w' ⟨rfl, md3, rfl⟩
              go_wp2
              go_roundw
              case rel => exact ⟨i + 1, by omega, by go_num, inv.drewN _⟩
              case measure => simp [intOf]; omega
        · go_wp2
          go_ret
          exact ⟨rfl, inv.below⟩
end Go.Proofs.Qxb6614537a
