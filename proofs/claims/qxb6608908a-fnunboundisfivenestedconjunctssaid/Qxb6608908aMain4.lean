/- The walk of FnUnboundIsFiveNestedConjuncts (4). -/
import Derived.Test.Qxb6608908aMain3
namespace Go.Proofs.Qxb6608908a
open Go.RowKit

set_option maxHeartbeats 1000000 in
theorem walk4 (key besides : ByteArray) (hk : key.size ≤ maxLen) (hb : besides.size ≤ maxLen) (w : World) :
    Calls Try.prog 4 #[.string key, .string besides] w fun e w' => e = .returned (.bool true) ∧ Below w.heap.size w w' := by
  by_cases hs : key.size + besides.size ≤ 1048576
  · have s1 : (key.size : Int) ≤ 1048576 := by omega
    have s2 : (besides.size : Int) ≤ 1048576 - (key.size : Int) := by omega
    have n1 : key.size ≤ 1048576 := by omega
    have n2 : besides.size ≤ 1048576 := by omega
    cases hK : balB key.data.toList
    · go_enter Try.func4, Try.ntmps4
      go_wp2_with (first | (go_at_call 8; refine (bytes8_any _ _ _ hk hb).mono ?_; rintro r w' ⟨rfl, rfl⟩) | (go_at_call 9; refine (balanced_any key _ hk).mono ?_; rintro r w' ⟨rfl, rfl⟩))
      go_ret
      exact ⟨rfl, Below.refl _ _⟩
    · cases hB : balB besides.data.toList
      · go_enter Try.func4, Try.ntmps4
        go_wp2_with (go_at_call 8; refine (bytes8_any _ _ _ hk hb).mono ?_; rintro r w' ⟨rfl, rfl⟩)
        go_at_call 9
        refine (balanced_any key _ hk).mono ?_
        rintro r w' ⟨rfl, rfl⟩
        go_wp2_with fail
        go_at_call 9
        refine (balanced_any besides _ hb).mono ?_
        rintro r w' ⟨rfl, rfl⟩
        go_wp2
        go_ret
        exact ⟨rfl, Below.refl _ _⟩
      · go_enter Try.func4, Try.ntmps4
        go_wp2_with (go_at_call 8; refine (bytes8_any _ _ _ hk hb).mono ?_; rintro r w' ⟨rfl, rfl⟩)
        go_at_call 9
        refine (balanced_any key _ hk).mono ?_
        rintro r w' ⟨rfl, rfl⟩
        go_wp2_with fail
        go_at_call 9
        refine (balanced_any besides _ hb).mono ?_
        rintro r w' ⟨rfl, rfl⟩
        go_wp2_with fail
        go_at_call 6
        refine (unb_named key besides w n1 n2).mono ?_
        rintro e w1 ⟨U, rfl, hU, sU, hb1⟩
        have hUb : balB U.data.toList = true := by rw [hU.out]; exact balB_unb hK hB
        have HUr : Hid (run U.data.toList 0 = some (0, five)) := by
          show _ = _
          rw [hU.out]; exact run_unb hK hB
        have mU : U.size ≤ maxLen := by unfold maxLen; omega
        clear hU hK hB
        go_wp2_with fail
        go_at_call 9
        refine (balanced_any U _ mU).mono ?_
        rintro r w' ⟨rfl, rfl⟩
        go_wp2_with fail
        go_at_call 10
        refine (top_any U five w1 sU HUr.out).mono ?_
        rintro e w2 ⟨rfl, hb2⟩
        obtain ⟨T, hT⟩ : ∃ T : ByteArray, (⟨five.toArray⟩ : ByteArray) = T := ⟨_, rfl⟩
        rw [hT]
        have HT : Hid ((⟨five.toArray⟩ : ByteArray) = T) := hT
        clear hT
        go_wp2_with fail
        go_at_call 11
        refine (five_any w2).mono ?_
        rintro e w3 ⟨rfl, rfl⟩
        rw [HT.out]
        have bel2 := hb1.trans (hb2.mono hb1.size)
        clear hb1 hb2
        go_wp2
        go_ret
        exact ⟨rfl, bel2⟩
  · have hk' := hk
    have hb' := hb
    unfold maxLen at hk' hb'
    go_enter Try.func4, Try.ntmps4
    go_wp2_with (go_at_call 8; refine (bytes8_any _ _ _ hk hb).mono ?_; rintro r w' ⟨rfl, rfl⟩)
    go_ret
    exact ⟨rfl, Below.refl _ _⟩

end Go.Proofs.Qxb6608908a
