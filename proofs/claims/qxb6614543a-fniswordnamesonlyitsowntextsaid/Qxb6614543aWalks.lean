import Derived.Test.Qxb6614543aIsWord
namespace Go.Proofs.Qxb6614543a
open Go.RowKit

theorem grown_trans {a b c : World} (h : Grown a b) (k : Grown b c) : Grown a c :=
  ⟨World.keptBut_trans h.1 k.1, fun x => (k.2.1 x).trans (h.2.1 x), Nat.le_trans h.2.2 k.2.2⟩

set_option maxHeartbeats 800000 in
theorem walk3 (k : Int) (t : ByteArray) (o e : Int) (nl : Bool) (a b : ByteArray) (ht : t.size ≤ maxLen) (ha : a.size ≤ maxLen) (hb : b.size ≤ maxLen) (w : World) :
    Calls Try.prog 3 #[.int .i64 k, .string t, .int .i64 o, .int .i64 e, .bool nl, .string a, .string b] w fun r w' => r = .returned (.bool true) ∧ Grown w w' := by
  have ht' := ht
  have ha' := ha
  have hb' := hb
  unfold maxLen at ht' ha' hb'
  by_cases hs : t.size + a.size + b.size ≤ 1048576
  · have s1 : (t.size : Int) ≤ 1048576 := by omega
    have s2 : (t.size : Int) + (a.size : Int) ≤ 1048576 := by omega
    have s3 : (t.size : Int) + (a.size : Int) + (b.size : Int) ≤ 1048576 := by omega
    by_cases hk0 : k < 0
    · go_enter Try.func3, Try.ntmps3
      go_wp2_with (go_at_call 5; refine (bytes5_any _ _ _ _ _ _ _ _ ht ha hb).mono ?_; rintro r w' ⟨rfl, rfl⟩)
      go_ret
      exact ⟨rfl, Grown.refl _⟩
    · by_cases hk4 : 4 < k
      · go_enter Try.func3, Try.ntmps3
        go_wp2_with (go_at_call 5; refine (bytes5_any _ _ _ _ _ _ _ _ ht ha hb).mono ?_; rintro r w' ⟨rfl, rfl⟩)
        go_ret
        exact ⟨rfl, Grown.refl _⟩
      · by_cases hk1 : k = 1
        · subst hk1
          have es := eqS_self t
          cases e1 : eqS t a <;> cases e2 : eqS t b
          case true.true =>
            have e3 := eqS_two e1 e2
            go_enter Try.func3, Try.ntmps3
            go_wp2_with (first | (go_at_call 5; refine (bytes5_any _ _ _ _ _ _ _ _ ht ha hb).mono ?_; rintro r w' ⟨rfl, rfl⟩) | (go_at_call 6; refine (word_is _ _ _ _ _ _).mono ?_; rintro r w' ⟨rfl, hg⟩))
            go_ret
            exact ⟨rfl, grown_trans (grown_trans (by assumption) (by assumption)) hg⟩
          all_goals
            go_enter Try.func3, Try.ntmps3
            go_wp2_with (first | (go_at_call 5; refine (bytes5_any _ _ _ _ _ _ _ _ ht ha hb).mono ?_; rintro r w' ⟨rfl, rfl⟩) | (go_at_call 6; refine (word_is _ _ _ _ _ _).mono ?_; rintro r w' ⟨rfl, hg⟩))
            go_ret
            exact ⟨rfl, grown_trans (grown_trans (by assumption) (by assumption)) hg⟩
        · have hkb : (k == 1) = false := by simpa using hk1
          go_enter Try.func3, Try.ntmps3
          go_wp2_with (first | (go_at_call 5; refine (bytes5_any _ _ _ _ _ _ _ _ ht ha hb).mono ?_; rintro r w' ⟨rfl, rfl⟩) | (go_at_call 6; refine (word_not _ _ _ _ _ _ _ hkb).mono ?_; rintro r w' ⟨rfl, hg⟩))
          go_ret
          exact ⟨rfl, grown_trans (grown_trans (by assumption) (by assumption)) hg⟩
  · go_enter Try.func3, Try.ntmps3
    go_wp2_with (go_at_call 5; refine (bytes5_any _ _ _ _ _ _ _ _ ht ha hb).mono ?_; rintro r w' ⟨rfl, rfl⟩)
    go_ret
    exact ⟨rfl, Grown.refl _⟩

set_option maxHeartbeats 800000 in
theorem walk4 (k : Int) (t : ByteArray) (o e : Int) (nl : Bool) (o2 e2 : Int) (nl2 : Bool) (a : ByteArray) (ht : t.size ≤ maxLen) (ha : a.size ≤ maxLen) (w : World) :
    Calls Try.prog 4 #[.int .i64 k, .string t, .int .i64 o, .int .i64 e, .bool nl, .int .i64 o2, .int .i64 e2, .bool nl2, .string a] w fun r w' => r = .returned (.bool true) ∧ Grown w w' := by
  have ht' := ht
  have ha' := ha
  unfold maxLen at ht' ha'
  by_cases hs : t.size + a.size ≤ 1048576
  · have s1 : (t.size : Int) ≤ 1048576 := by omega
    have s2 : (t.size : Int) + (a.size : Int) ≤ 1048576 := by omega
    by_cases hk0 : k < 0
    · go_enter Try.func4, Try.ntmps4
      go_wp2_with (go_at_call 7; refine (bytes7_any _ _ _ _ _ _ _ _ _ _ ht ha).mono ?_; rintro r w' ⟨rfl, rfl⟩)
      go_ret
      exact ⟨rfl, Grown.refl _⟩
    · by_cases hk4 : 4 < k
      · go_enter Try.func4, Try.ntmps4
        go_wp2_with (go_at_call 7; refine (bytes7_any _ _ _ _ _ _ _ _ _ _ ht ha).mono ?_; rintro r w' ⟨rfl, rfl⟩)
        go_ret
        exact ⟨rfl, Grown.refl _⟩
      · have es := eqS_self a
        by_cases hk1 : k = 1
        · subst hk1
          cases e1 : eqS t a
          all_goals
            go_enter Try.func4, Try.ntmps4
            go_wp2_with (first | (go_at_call 7; refine (bytes7_any _ _ _ _ _ _ _ _ _ _ ht ha).mono ?_; rintro r w' ⟨rfl, rfl⟩) | (go_at_call 6; refine (word_is _ _ _ _ _ _).mono ?_; rintro r w' ⟨rfl, hg⟩))
            go_ret
            exact ⟨rfl, grown_trans (grown_trans (by assumption) (by assumption)) hg⟩
        · have hkb : (k == 1) = false := by simpa using hk1
          go_enter Try.func4, Try.ntmps4
          go_wp2_with (go_at_call 7; refine (bytes7_any _ _ _ _ _ _ _ _ _ _ ht ha).mono ?_; rintro r w' ⟨rfl, rfl⟩)
          go_at_call 6
          refine (word_not _ _ _ _ _ _ _ hkb).mono ?_
          rintro r w1 ⟨rfl, hg1⟩
          go_wp2_with fail
          go_at_call 6
          refine (word_not _ _ _ _ _ _ _ hkb).mono ?_
          rintro r w2 ⟨rfl, hg2⟩
          go_wp2_with fail
          go_at_call 6
          refine (word_is _ _ _ _ _ _).mono ?_
          rintro r w3 ⟨rfl, hg⟩
          go_wp2
          go_ret
          exact ⟨rfl, grown_trans (grown_trans (by assumption) (by assumption)) hg⟩
  · go_enter Try.func4, Try.ntmps4
    go_wp2_with (go_at_call 7; refine (bytes7_any _ _ _ _ _ _ _ _ _ _ ht ha).mono ?_; rintro r w' ⟨rfl, rfl⟩)
    go_ret
    exact ⟨rfl, Grown.refl _⟩

end Go.Proofs.Qxb6614543a
