import Derived.Test.Qxb6609285aDoorWalkD
namespace Go.Proofs.Qxb6609285aDoor
open Go

theorem mask_nat : ∀ m, m < 32 → 4294967295 * 2 ^ m % 4294967296 = (2 ^ (32 - m) - 1) <<< m := by decide

theorem net_nat (x s m : Nat) (hx : x < 2 ^ 32) (hs : s < 2 ^ 32) (hm : m < 32) : x &&& ((2 ^ (32 - m) - 1) <<< m) = s &&& ((2 ^ (32 - m) - 1) <<< m) ↔ (x ^^^ s) >>> m = 0 := by
  constructor
  · intro h
    apply Nat.eq_of_testBit_eq
    intro i
    rw [Nat.testBit_shiftRight, Nat.testBit_xor, Nat.zero_testBit]
    by_cases hi : m + i < 32
    · have := congrArg (fun y => y.testBit (m + i)) h
      simp only [Nat.testBit_and, Nat.testBit_shiftLeft, Nat.testBit_two_pow_sub_one] at this
      have e1 : decide (m + i ≥ m) = true := by simp
      have e2 : decide (m + i - m < 32 - m) = true := by simp; omega
      rw [e1, e2] at this
      simpa using this
    · rw [Nat.testBit_lt_two_pow (Nat.lt_of_lt_of_le hx (Nat.pow_le_pow_right (by decide) (by omega))), Nat.testBit_lt_two_pow (Nat.lt_of_lt_of_le hs (Nat.pow_le_pow_right (by decide) (by omega)))]
      rfl
  · intro h
    apply Nat.eq_of_testBit_eq
    intro j
    simp only [Nat.testBit_and, Nat.testBit_shiftLeft, Nat.testBit_two_pow_sub_one]
    by_cases hj : m ≤ j
    · have := congrArg (fun y => y.testBit (j - m)) h
      simp only [Nat.testBit_shiftRight, Nat.testBit_xor, Nat.zero_testBit] at this
      rw [show m + (j - m) = j by omega] at this
      have e : x.testBit j = s.testBit j := by simpa using this
      rw [e]
    · have e1 : decide (j ≥ m) = false := by simp; omega
      rw [e1]; simp

/-- What the law's mask says is what 'contains' says. -/
theorem net_eq (src x b : Int) (hs0 : 0 ≤ src) (hs1 : src < 4294967296) (hx0 : 0 ≤ x) (hx1 : x < 4294967296) (hb0 : 0 < b) (hb1 : b ≤ 32) :
    (bits BinOp.and IntKind.u32 x (4294967295 * 2 ^ (32 - b).toNat % 4294967296) == bits BinOp.and IntKind.u32 src (4294967295 * 2 ^ (32 - b).toNat % 4294967296)) =
    inPfx src x b := by
  obtain ⟨s, rfl⟩ := Int.eq_ofNat_of_zero_le hs0
  obtain ⟨y, rfl⟩ := Int.eq_ofNat_of_zero_le hx0
  have hm : (32 - b).toNat < 32 := by omega
  unfold inPfx
  generalize (32 - b).toNat = m at *
  have hb : (b == 0) = false := by rw [beq_eq_false_iff_ne]; omega
  have em : (4294967295 * 2 ^ m % 4294967296 : Int) = (((2 ^ (32 - m) - 1) <<< m : Nat) : Int) := by
    rw [← mask_nat m hm]; rfl
  have hlt : (2 ^ (32 - m) - 1) <<< m < 4294967296 := by rw [← mask_nat m hm]; exact Nat.mod_lt _ (by decide)
  rw [em, hb, u32_and_nat _ _ (by omega) hlt, u32_and_nat _ _ (by omega) hlt, u32_xor_nat _ _ (by omega) (by omega)]
  have key := net_nat y s m (by omega) (by omega) hm
  rw [Nat.shiftRight_eq_div_pow] at key
  rw [Bool.false_or, Bool.eq_iff_iff, beq_iff_eq, beq_iff_eq, Int.natCast_inj, key]
  constructor
  · intro h
    have : (((y ^^^ s) / 2 ^ m : Nat) : Int) = 0 := by rw [h]; rfl
    simpa using this
  · intro h
    have : (((y ^^^ s) / 2 ^ m : Nat) : Int) = 0 := by simpa using h
    omega
end Go.Proofs.Qxb6609285aDoor
