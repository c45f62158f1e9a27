/- The callees that read texts: zzBytes (5, 8), isSubsequence (7), balanced (9). -/
import Derived.Test.Qxb6608908aRows
import Derived.Test.Qxb6608908aPlain
import Derived.WalkKit
import Derived.WalkSpells
import Derived.WalkLawsBesides
import Derived.Deep.QuietTactic
import Derived.BigQuiet
namespace Go.Proofs.Qxb6608908a
open Go.RowKit

theorem ret_bool {a b : Bool} (h : a = b) : Ending.returned (.bool a) = .returned (.bool b) := by rw [h]

set_option maxHeartbeats 400000 in
theorem bytes5_any (a b : ByteArray) (w : World) (ha : a.size ≤ maxLen) (hb : b.size ≤ maxLen) :
    Calls Try.prog 5 #[.string a, .string b] w fun r w' => r = .returned (.bool (decide (a.size + b.size ≤ 1048576))) ∧ w = w' := by
  unfold maxLen at ha hb
  go_enter Try.func5, Try.ntmps5
  go_wp2
  all_goals go_ret
  all_goals exact ⟨ret_bool (by simp; omega), rfl⟩

set_option maxHeartbeats 400000 in
theorem bytes8_any (a b : ByteArray) (w : World) (ha : a.size ≤ maxLen) (hb : b.size ≤ maxLen) :
    Calls Try.prog 8 #[.string a, .string b] w fun r w' => r = .returned (.bool (decide (a.size + b.size ≤ 1048576))) ∧ w = w' := by
  unfold maxLen at ha hb
  go_enter Try.func8, Try.ntmps8
  go_wp2
  all_goals go_ret
  all_goals exact ⟨ret_bool (by simp; omega), rfl⟩

theorem drop_at (s : ByteArray) (k : Nat) (h : k < s.size) : s.data.toList.drop k = s[k] :: s.data.toList.drop (k + 1) := by
  rw [List.drop_eq_getElem_cons (by simpa using h)]; rfl
theorem take_snoc (s : ByteArray) (k : Nat) (h : k < s.size) : s.data.toList.take (k + 1) = s.data.toList.take k ++ [s[k]] := by
  rw [List.take_succ_eq_append_getElem (by simpa using h)]; rfl

theorem byte_eq {x y : UInt8} (h : ((x.toNat : Int) == (y.toNat : Int)) = true) : x = y := by
  apply UInt8.toNat_inj.1
  simp only [beq_iff_eq] at h
  omega
theorem byte_ne {x y : UInt8} (h : ((x.toNat : Int) == (y.toNat : Int)) = false) : ¬ x = y := by
  intro e
  subst e
  simp at h

/-- What is still to be found of the smaller text is a sub-sequence of what is still to be read of the greater. -/
def Still (s b : ByteArray) (i j : Nat) : Prop := List.Sublist (s.data.toList.drop i) (b.data.toList.drop j)
theorem still_hit {s b : ByteArray} {i j : Nat} (hi : i < s.size) (hj : j < b.size) (h : Still s b i j) (e : b[j] = s[i]) : Still s b (i + 1) (j + 1) := by
  unfold Still at h ⊢
  rw [drop_at s i hi, drop_at b j hj, e] at h
  exact greedy_hit h
theorem still_miss {s b : ByteArray} {i j : Nat} (hi : i < s.size) (hj : j < b.size) (h : Still s b i j) (e : ¬ b[j] = s[i]) : Still s b i (j + 1) := by
  unfold Still at h ⊢
  rw [drop_at s i hi, drop_at b j hj] at h
  rw [drop_at s i hi]
  exact greedy_miss e h
theorem still_end {s b : ByteArray} {i j : Nat} (hi : i ≤ s.size) (hj : b.size ≤ j) (h : Still s b i j) : i = s.size := by
  unfold Still at h
  rw [show b.data.toList.drop j = [] from List.drop_eq_nil_of_le (by simpa using hj)] at h
  have := List.eq_nil_of_sublist_nil h
  have := List.drop_eq_nil_iff.1 this
  have e : s.data.toList.length = s.size := by simp
  omega

set_option maxHeartbeats 400000 in
theorem sub_any (s b : ByteArray) (w : World) (hs : s.size ≤ maxLen) (hb : b.size ≤ maxLen) (h : List.Sublist s.data.toList b.data.toList) :
    Calls Try.prog 7 #[.string s, .string b] w fun e w' => e = .returned (.bool true) ∧ Below w.heap.size w w' := by
  unfold maxLen at hs hb
  have h0 : Still s b 0 0 := h
  clear h
  go_enter Try.func7, Try.ntmps7
  go_wp2
  go_loopw [5, 6] (fun u t wr => ∃ i j : Nat, i ≤ s.size ∧ j ≤ b.size ∧ u = .int .i64 i ∧ t = .int .i64 j ∧ Still s b i j ∧ Below w.heap.size w wr) (fun _ t _ => b.size - (intOf t).toNat)
  case atStart => exact ⟨0, 0, Nat.zero_le _, Nat.zero_le _, rfl, rfl, h0, Below.refl _ _⟩
  case round =>
    clear h0
    obtain ⟨i, j, hi, hj, rfl, rfl, hst, hbl⟩ := hrel
    by_cases hj1 : j < b.size
    · by_cases hi1 : i < s.size
      · have hj1' : (j : Int) < b.size := by omega
        have hi1' : (i : Int) < s.size := by omega
        go_wp2
        go_quiet (fail)
        go_wp2
        · go_roundw
          case rel => exact ⟨i + 1, j + 1, by omega, by omega, by go_num, by go_num, still_hit hi1 hj1 hst (byte_eq (by assumption)), below_drewN hbl _⟩
          case measure => simp [intOf]; omega
        · go_roundw
          case rel => exact ⟨i, j + 1, by omega, by omega, rfl, by go_num, still_miss hi1 hj1 hst (byte_ne (by assumption)), below_drewN hbl _⟩
          case measure => simp [intOf]; omega
      · have hd : decide ((i : Int) < s.size) = false := by simp; omega
        obtain rfl : i = s.size := by omega
        go_wp2
        go_ret
        exact ⟨rfl, hbl⟩
    · obtain rfl : i = s.size := still_end hi (by omega) hst
      go_wp2
      go_ret
      exact ⟨rfl, hbl⟩
/-- The first k bytes lead to depth d, and o stands at depth zero. -/
def RunAt (s : ByteArray) (k d : Nat) (o : List UInt8) : Prop := run (s.data.toList.take k) 0 = some (d, o)
theorem runAt_zero (s : ByteArray) : RunAt s 0 0 [] := rfl
theorem runAt_open {s : ByteArray} {k d : Nat} {o : List UInt8} (hk : k < s.size) (h : RunAt s k d o) (e : s[k] = 40) : RunAt s (k + 1) (d + 1) o := by
  unfold RunAt at h ⊢
  rw [take_snoc s k hk]
  have := run_seq h (show run [s[k]] d = some (d + 1, []) by rw [e]; rfl)
  simpa using this
theorem runAt_close {s : ByteArray} {k d : Nat} {o : List UInt8} (hk : k < s.size) (h : RunAt s k (d + 1) o) (e : s[k] = 41) : RunAt s (k + 1) d o := by
  unfold RunAt at h ⊢
  rw [take_snoc s k hk]
  have := run_seq h (show run [s[k]] (d + 1) = some (d, []) by rw [e]; rfl)
  simpa using this
theorem runAt_top {s : ByteArray} {k : Nat} {o : List UInt8} (hk : k < s.size) (h : RunAt s k 0 o) (e1 : ¬ s[k] = 40) (e2 : ¬ s[k] = 41) : RunAt s (k + 1) 0 (o ++ [s[k]]) := by
  unfold RunAt at h ⊢
  rw [take_snoc s k hk]
  exact run_seq h (show run [s[k]] 0 = some (0, [s[k]]) by simp [run, e1, e2])
theorem runAt_deep {s : ByteArray} {k d : Nat} {o : List UInt8} (hk : k < s.size) (h : RunAt s k d o) (e1 : ¬ s[k] = 40) (e2 : ¬ s[k] = 41) (hd : ¬ d = 0) : RunAt s (k + 1) d o := by
  unfold RunAt at h ⊢
  rw [take_snoc s k hk]
  have := run_seq h (show run [s[k]] d = some (d, []) by simp [run, e1, e2, hd])
  simpa using this
theorem runAt_some {s : ByteArray} {k d : Nat} {o : List UInt8} (hk : k < s.size) (h : RunAt s k d o) (e1 : ¬ s[k] = 40) (e2 : ¬ s[k] = 41) : ∃ o', RunAt s (k + 1) d o' := by
  by_cases hd : d = 0
  · subst hd; exact ⟨_, runAt_top hk h e1 e2⟩
  · exact ⟨_, runAt_deep hk h e1 e2 hd⟩
theorem runAt_below {s : ByteArray} {k : Nat} {o : List UInt8} (hk : k < s.size) (h : RunAt s k 0 o) (e : s[k] = 41) : run s.data.toList 0 = none := by
  unfold RunAt at h
  have hs : s.data.toList = s.data.toList.take k ++ s[k] :: s.data.toList.drop (k + 1) := by
    rw [← drop_at s k hk]; simp
  rw [hs, run_append, h, e]
  rfl
theorem runAt_end {s : ByteArray} {d : Nat} {o : List UInt8} (h : RunAt s s.size d o) : run s.data.toList 0 = some (d, o) := by
  unfold RunAt at h
  rwa [List.take_of_length_le (by simp)] at h
theorem balB_end {s : ByteArray} {d : Nat} {o : List UInt8} (h : RunAt s s.size d o) : balB s.data.toList = ((d : Int) == 0) := by
  unfold balB
  rw [runAt_end h]
  cases d with
  | zero => rfl
  | succ d => simp; omega
theorem balB_below {s : ByteArray} {k : Nat} {o : List UInt8} (hk : k < s.size) (h : RunAt s k 0 o) (e : s[k] = 41) : balB s.data.toList = false := by
  unfold balB
  rw [runAt_below hk h e]
theorem byte_is {x : UInt8} {n : Nat} (hn : n < 256) (h : ((x.toNat : Int) == (n : Int)) = true) : x = UInt8.ofNat n := by
  apply UInt8.toNat_inj.1
  simp at h
  simp; omega

set_option maxHeartbeats 400000 in
theorem balanced_any (s : ByteArray) (w : World) (hs : s.size ≤ maxLen) :
    Calls Try.prog 9 #[.string s] w fun e w' => e = .returned (.bool (balB s.data.toList)) ∧ w = w' := by
  unfold maxLen at hs
  go_enter Try.func9, Try.ntmps9
  go_wp2
  go_loop [3, 4] (fun u t => ∃ (k d : Nat) (o : List UInt8), k ≤ s.size ∧ d ≤ k ∧ u = .int .i64 d ∧ t = .int .i64 k ∧ RunAt s k d o) (fun _ t => s.size - (intOf t).toNat)
  case atStart => exact ⟨0, 0, [], Nat.zero_le _, Nat.le_refl _, rfl, rfl, runAt_zero s⟩
  case round =>
    obtain ⟨k, d, o, hk, hd, rfl, rfl, hr⟩ := hrel
    by_cases hlt : k < s.size
    · have hlt' : (k : Int) < s.size := by omega
      by_cases e1 : s[k] = 40
      · have hb1 : ((s[k].toNat : Int) == 40) = true := by rw [e1]; rfl
        have hr' := runAt_open hlt hr e1
        clear e1
        go_wp2
        go_round
        case rel => exact ⟨k + 1, d + 1, o, by omega, by omega, by go_num, by go_num, hr'⟩
        case measure => simp [intOf]; omega
      · have hb1 : ((s[k].toNat : Int) == 40) = false := by
          rw [Bool.eq_false_iff]; intro h; exact e1 (byte_is (n := 40) (by decide) h)
        by_cases e2 : s[k] = 41
        · have hb2 : ((s[k].toNat : Int) == 41) = true := by rw [e2]; rfl
          cases d with
          | zero =>
            have hf := balB_below hlt hr e2
            clear e1 e2
            go_wp2
            go_ret
            exact ⟨rfl, rfl⟩
          | succ d =>
            have hr' := runAt_close hlt hr e2
            clear e1 e2
            go_wp2
            go_round
            case rel => exact ⟨k + 1, d, o, by omega, by omega, by go_num, by go_num, hr'⟩
            case measure => simp [intOf]; omega
        · have hb2 : ((s[k].toNat : Int) == 41) = false := by
            rw [Bool.eq_false_iff]; intro h; exact e2 (byte_is (n := 41) (by decide) h)
          obtain ⟨o', hr'⟩ := runAt_some hlt hr e1 e2
          clear e1 e2
          go_wp2
          go_round
          case rel => exact ⟨k + 1, d, o', by omega, by omega, rfl, by go_num, hr'⟩
          case measure => simp [intOf]; omega
    · obtain rfl : k = s.size := by omega
      have hf := balB_end hr
      go_wp2
      go_ret
      exact ⟨rfl, rfl⟩

end Go.Proofs.Qxb6608908a
