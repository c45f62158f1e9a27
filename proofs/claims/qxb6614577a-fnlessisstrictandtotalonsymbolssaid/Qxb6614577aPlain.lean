/- Plain: the order on texts, byte by byte, is strict and total. -/
import Derived.Laws.Strings
namespace Go.Proofs.Qxb6614577a

/-- One text comes before another. -/
def lessS (s t : ByteArray) : Bool := Op.bytesLess s.toList t.toList
/-- Two texts differ. -/
def diffS (s t : ByteArray) : Bool := !(s.toList == t.toList)

theorem less_both : ∀ (x y : List UInt8), (Op.bytesLess x y && Op.bytesLess y x) = false
  | _, [] => by cases ‹List UInt8› <;> simp [Op.bytesLess]
  | [], _ :: _ => by simp [Op.bytesLess]
  | a :: x, b :: y => by
    have ih := less_both x y
    by_cases h1 : a < b
    · have h2 : ¬ b < a := by
        rw [UInt8.lt_iff_toNat_lt] at h1 ⊢; omega
      have h3 : (b == a) = false := by
        rw [beq_eq_false_iff_ne]; intro e; subst e; exact h2 h1
      simp [Op.bytesLess, h2, h3]
    · by_cases h2 : b < a
      · have h3 : (a == b) = false := by
          rw [beq_eq_false_iff_ne]; intro e; subst e; exact h1 h2
        simp [Op.bytesLess, h1, h3]
      · have e : a = b := by
          apply UInt8.toNat_inj.1
          rw [UInt8.lt_iff_toNat_lt] at h1 h2; omega
        subst e
        simpa [Op.bytesLess, h1] using ih

theorem less_either : ∀ (x y : List UInt8), (Op.bytesLess x y || Op.bytesLess y x) = !(x == y)
  | [], [] => by simp [Op.bytesLess]
  | _ :: _, [] => by simp [Op.bytesLess]
  | [], _ :: _ => by simp [Op.bytesLess]
  | a :: x, b :: y => by
    have ih := less_either x y
    by_cases h1 : a < b
    · have h3 : (a == b) = false := by
        rw [beq_eq_false_iff_ne]; intro e; subst e
        rw [UInt8.lt_iff_toNat_lt] at h1; omega
      simp [Op.bytesLess, h1, h3]
    · by_cases h2 : b < a
      · have h3 : (a == b) = false := by
          rw [beq_eq_false_iff_ne]; intro e; subst e; exact h1 h2
        simp [Op.bytesLess, h2, h3]
      · have e : a = b := by
          apply UInt8.toNat_inj.1
          rw [UInt8.lt_iff_toNat_lt] at h1 h2; omega
        subst e
        simpa [Op.bytesLess, h1] using ih

theorem lessS_both (s t : ByteArray) (h1 : lessS s t = true) (h2 : lessS t s = true) : False := by
  have := less_both s.toList t.toList
  unfold lessS at h1 h2
  rw [h1, h2] at this
  simp at this
theorem lessS_either (s t : ByteArray) : diffS s t = (lessS s t || lessS t s) := (less_either s.toList t.toList).symm

end Go.Proofs.Qxb6614577a
