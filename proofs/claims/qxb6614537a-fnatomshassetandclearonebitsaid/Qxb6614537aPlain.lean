/- Plain facts on bits of natural numbers, and how the model's 'bits' and 'wrap' spell them. -/
import Derived.Laws.BitsAllLaws
namespace Go.Proofs.Qxb6614537a

/-- What 'has' reads: bit i % 64 of the word. -/
def hasB (Z i : Nat) : Bool := Z.testBit (i % 64)

theorem wrap_pow (k : Nat) (hk : k < 64) : IntKind.u64.wrap ((2 : Int) ^ k) = ((2 ^ k : Nat) : Int) := by
  have h : (2 : Nat) ^ k < 2 ^ 64 := Nat.pow_lt_pow_right (by decide) hk
  have e : ((2 : Int) ^ k) = ((2 ^ k : Nat) : Int) := by simp
  rw [e, IntKind.wrap_u64]
  have h' : (2 : Nat) ^ k < 18446744073709551616 := h
  generalize (2 : Nat) ^ k = p at h'
  omega

theorem and_test (Z k : Nat) (hZ : Z < 18446744073709551616) (hk : k < 64) : (bits .and .u64 (Z : Int) (IntKind.u64.wrap ((2 : Int) ^ k)) != 0) = Z.testBit k := by
  have h : (2 : Nat) ^ k < 18446744073709551616 := Nat.pow_lt_pow_right (by decide) hk
  rw [wrap_pow k hk, u64_and_nat Z (2 ^ k) hZ h, nat_bit]
  have hp : 0 < 2 ^ k := Nat.two_pow_pos k
  have e : Z.testBit k = decide (Z / 2 ^ k % 2 = 1) := by rw [Nat.testBit_eq_decide_div_mod_eq]
  rw [e]
  have h2 : Z / 2 ^ k % 2 = 0 ∨ Z / 2 ^ k % 2 = 1 := by omega
  rcases h2 with h2 | h2
  · rw [h2]; simp
  · rw [h2]
    generalize (2 : Nat) ^ k = p at hp
    simp
    omega

/-- One more bit of the word that is put together. -/
theorem mod_succ_bit (Z b : Nat) : Z % 2 ^ (b + 1) = Z % 2 ^ b + (if Z.testBit b then 2 ^ b else 0) := by
  rw [Nat.pow_succ, Nat.mod_mul, Nat.testBit_eq_decide_div_mod_eq]
  have h2 : Z / 2 ^ b % 2 = 0 ∨ Z / 2 ^ b % 2 = 1 := by omega
  rcases h2 with h2 | h2 <;> rw [h2] <;> simp

theorem or_step (Z b : Nat) (hb : b < 64) (ht : Z.testBit b = true) :
    bits .or .u64 ((Z % 2 ^ b : Nat) : Int) (IntKind.u64.wrap ((2 : Int) ^ b)) = ((Z % 2 ^ (b + 1) : Nat) : Int) := by
  have h : (2 : Nat) ^ b < 18446744073709551616 := Nat.pow_lt_pow_right (by decide) hb
  have hm : Z % 2 ^ b < 2 ^ b := Nat.mod_lt _ (Nat.two_pow_pos b)
  rw [wrap_pow b hb, u64_or_nat _ _ (by omega) h, mod_succ_bit, ht, Nat.or_comm, nat_join b _ _ (Nat.mod_self _) hm]
  simp [Nat.add_comm]

theorem mod_step (Z b : Nat) (ht : Z.testBit b = false) : Z % 2 ^ (b + 1) = Z % 2 ^ b := by
  rw [mod_succ_bit, ht]; simp

/-- The low m bits of a word. -/
def low (Z m : Nat) : Nat := Z % 2 ^ m

theorem low_zero (Z : Nat) : low Z 0 = 0 := by simp [low, Nat.mod_one]
theorem low_all (Z : Nat) (hZ : Z < 18446744073709551616) : low Z 64 = Z := Nat.mod_eq_of_lt hZ
theorem hasB_at (Z k m : Nat) (hm : m < 64) : hasB Z (64 * k + m) = Z.testBit m := by
  unfold hasB
  rw [show (64 * k + m) % 64 = m by omega]
theorem low_yes (Z k m : Nat) (hm : m < 64) (h : hasB Z (64 * k + m) = true) : bits .or .u64 (low Z m : Int) (IntKind.u64.wrap ((2 : Int) ^ m)) = (low Z (m + 1) : Int) :=
  or_step Z m hm (by rw [← hasB_at Z k m hm]; exact h)
theorem low_no (Z k m : Nat) (hm : m < 64) (h : hasB Z (64 * k + m) = false) : low Z m = low Z (m + 1) :=
  (mod_step Z m (by rw [← hasB_at Z k m hm]; exact h)).symm

end Go.Proofs.Qxb6614537a
