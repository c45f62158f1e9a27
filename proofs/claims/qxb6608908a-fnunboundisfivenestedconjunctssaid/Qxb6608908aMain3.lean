/- The walk of FnUnboundSplicesKeyAndBesides (3). -/
import Derived.Test.Qxb6608908aUnbound
namespace Go.Proofs.Qxb6608908a
open Go.RowKit

/-- ZZunbound, its text under a name. -/
theorem unb_named (key besides : ByteArray) (w : World) (hk : key.size ≤ 1048576) (hb : besides.size ≤ 1048576) :
    Calls Try.prog 6 #[.string key, .string besides] w fun e w' => ∃ U : ByteArray, e = .returned (.string U) ∧ Hid (U.data.toList = unb key.data.toList besides.data.toList) ∧ U.size ≤ 16777216 ∧ Below w.heap.size w w' := by
  refine (zzunbound_any key besides w (by omega) (by omega)).mono fun e w' ⟨he, hbel⟩ => ⟨_, he, show _ = _ from rfl, ?_, hbel⟩
  show (unb key.data.toList besides.data.toList).length ≤ _
  have h1 := unb_length key.data.toList besides.data.toList
  have h2 := bes_length besides.data.toList
  have h3 : key.data.toList.length = key.size := by simp
  have h4 : besides.data.toList.length = besides.size := by simp
  split at h2 <;> omega

theorem size_of {U : ByteArray} {l : List UInt8} (h : U.data.toList = l) : U.size = l.length := by rw [← h]; simp

/-- THE LENGTH's LAW, in the walk's spelling. -/
theorem want_none {U F key besides : ByteArray} (hU : U.data.toList = unb key.data.toList besides.data.toList) (hF : F.data.toList = unb [] []) (hB : besides.toList.isEmpty = true) :
    ((U.size : Int) == (F.size : Int) + 5 * (key.size : Int)) = true := by
  have e : besides.data.toList = [] := by
    rw [← Lib.toList_data besides]; simpa using hB
  have h1 := size_of hU
  have h2 := size_of hF
  rw [unb_length, e] at h1
  rw [unb_length] at h2
  simp only [bes_length, if_true, List.length_nil] at h1 h2
  have h3 : key.data.toList.length = key.size := by simp
  simp only [beq_iff_eq]
  omega
theorem want_some {U F key besides : ByteArray} (hU : U.data.toList = unb key.data.toList besides.data.toList) (hF : F.data.toList = unb [] []) (hB : besides.toList.isEmpty = false) :
    ((U.size : Int) == (F.size : Int) + 5 * (key.size : Int) + 4 * ((besides.size : Int) + 5)) = true := by
  have e : ¬ besides.data.toList = [] := by
    rw [← Lib.toList_data besides]; simpa using hB
  have h1 := size_of hU
  have h2 := size_of hF
  rw [unb_length, bes_length, if_neg e] at h1
  rw [unb_length] at h2
  simp only [bes_length, if_true, List.length_nil] at h2
  have h3 : key.data.toList.length = key.size := by simp
  have h4 : besides.data.toList.length = besides.size := by simp
  simp only [beq_iff_eq]
  omega

set_option maxHeartbeats 1000000 in
theorem walk3 (key besides : ByteArray) (hk : key.size ≤ maxLen) (hb : besides.size ≤ maxLen) (w : World) :
    Calls Try.prog 3 #[.string key, .string besides] w fun e w' => e = .returned (.bool true) ∧ Below w.heap.size w w' := by
  by_cases hs : key.size + besides.size ≤ 1048576
  · have s1 : (key.size : Int) ≤ 1048576 := by omega
    have s2 : (besides.size : Int) ≤ 1048576 - (key.size : Int) := by omega
    have n1 : key.size ≤ 1048576 := by omega
    have n2 : besides.size ≤ 1048576 := by omega
    have ne : (⟨#[]⟩ : ByteArray).size ≤ 1048576 := by decide
    cases hB : besides.toList.isEmpty
    all_goals
      go_enter Try.func3, Try.ntmps3
      go_wp2_with (go_at_call 5; refine (bytes5_any _ _ _ hk hb).mono ?_; rintro r w' ⟨rfl, rfl⟩)
      go_at_call 6
      refine (unb_named key besides w n1 n2).mono ?_
      rintro e w1 ⟨U, rfl, hU, sU, hb1⟩
      go_wp2_with fail
      go_at_call 6
      refine (unb_named ⟨#[]⟩ ⟨#[]⟩ w1 ne ne).mono ?_
      rintro e w2 ⟨F, rfl, hF, sF, hb2⟩
      go_wp2_with fail
      go_at_call 6
      refine (unb_named key ⟨#[]⟩ w2 n1 ne).mono ?_
      rintro e w3 ⟨NB, rfl, hNB, sNB, hb3⟩
      go_wp2_with fail
      go_at_call 6
      refine (unb_named ⟨#[]⟩ besides w3 ne n2).mono ?_
      rintro e w4 ⟨NK, rfl, hNK, sNK, hb4⟩
      have bel4 : Below w.heap.size w w4 := ((hb1.trans (hb2.mono hb1.size)).trans (hb3.mono (hb1.trans (hb2.mono hb1.size)).size)).trans (hb4.mono ((hb1.trans (hb2.mono hb1.size)).trans (hb3.mono (hb1.trans (hb2.mono hb1.size)).size)).size)
      have sub1 : Hid (List.Sublist NB.data.toList U.data.toList) := by
        show List.Sublist _ _
        rw [hNB.out, hU.out]; exact sub_noBesides _ _
      have sub2 : Hid (List.Sublist NK.data.toList U.data.toList) := by
        show List.Sublist _ _
        rw [hNK.out, hU.out]; exact sub_noKey _ _
      have mU : U.size ≤ maxLen := by unfold maxLen; omega
      have mNB : NB.size ≤ maxLen := by unfold maxLen; omega
      have mNK : NK.size ≤ maxLen := by unfold maxLen; omega
      clear hb1 hb2 hb3 hb4 hNB hNK
    · have hw := want_some hU.out hF.out hB
      clear hU hF
      go_wp2_with fail
      go_at_call 7
      refine (sub_any NB U w4 mNB mU sub1.out).mono ?_
      rintro e w5 ⟨rfl, hb5⟩
      go_wp2_with fail
      go_at_call 7
      refine (sub_any NK U w5 mNK mU sub2.out).mono ?_
      rintro e w6 ⟨rfl, hb6⟩
      have bel5 := bel4.trans (hb5.mono bel4.size)
      have bel6 := bel5.trans (hb6.mono bel5.size)
      clear hb5 hb6 bel4 bel5
      go_wp2
      go_ret
      exact ⟨rfl, bel6⟩
    · have hw := want_none hU.out hF.out hB
      clear hU hF
      go_wp2_with fail
      go_at_call 7
      refine (sub_any NB U w4 mNB mU sub1.out).mono ?_
      rintro e w5 ⟨rfl, hb5⟩
      go_wp2_with fail
      go_at_call 7
      refine (sub_any NK U w5 mNK mU sub2.out).mono ?_
      rintro e w6 ⟨rfl, hb6⟩
      have bel5 := bel4.trans (hb5.mono bel4.size)
      have bel6 := bel5.trans (hb6.mono bel5.size)
      clear hb5 hb6 bel4 bel5
      go_wp2
      go_ret
      exact ⟨rfl, bel6⟩
  · have hk' := hk
    have hb' := hb
    unfold maxLen at hk' hb'
    go_enter Try.func3, Try.ntmps3
    go_wp2_with (go_at_call 5; refine (bytes5_any _ _ _ hk hb).mono ?_; rintro r w' ⟨rfl, rfl⟩)
    go_ret
    exact ⟨rfl, Below.refl _ _⟩
end Go.Proofs.Qxb6608908a
