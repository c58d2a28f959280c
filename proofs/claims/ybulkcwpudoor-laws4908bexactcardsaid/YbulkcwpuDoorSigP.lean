/-
  How many significant digits a double has, off its bits. No Go text in sight.
-/
import Derived.Test.YbulkcwpuDoorSplit
namespace Go.Proofs.YbulkcwpuDoor.Fp
open Ieee

theorem odd_part : ∀ (f n : Nat), n ≠ 0 → n < f → ∃ o k, n = o * 2 ^ k ∧ o % 2 = 1 := by
  intro f
  induction f with
  | zero => intro n _ h; exact absurd h (Nat.not_lt_zero _)
  | succ f ih =>
    intro n h0 hf
    by_cases h : n % 2 = 1
    · exact ⟨n, 0, by simp, h⟩
    · obtain ⟨o, k, e, ho⟩ := ih (n / 2) (by omega) (by omega)
      refine ⟨o, k + 1, ?_, ho⟩
      rw [Nat.pow_succ, ← Nat.mul_assoc, ← e]
      omega

theorem odd_le (o o' a b : Nat) (h : o * 2 ^ a = o' * 2 ^ b) (ho : o % 2 = 1) (hab : a ≤ b) : a = b := by
  by_cases e : a = b
  · exact e
  · exfalso
    obtain ⟨d, hd⟩ : ∃ d, b = a + (d + 1) := ⟨b - a - 1, by omega⟩
    rw [hd, Nat.pow_add, Nat.mul_comm (2 ^ a), ← Nat.mul_assoc] at h
    have := Nat.mul_right_cancel (Nat.two_pow_pos a) h
    rw [Nat.pow_succ, ← Nat.mul_assoc] at this
    omega

theorem odd_unique (o o' a b : Nat) (h : o * 2 ^ a = o' * 2 ^ b) (ho : o % 2 = 1) (ho' : o' % 2 = 1) : o = o' := by
  have e : a = b := by
    rcases Nat.le_total a b with hab | hab
    · exact odd_le o o' a b h ho hab
    · exact (odd_le o' o b a h.symm ho' hab).symm
  subst e
  exact Nat.mul_right_cancel (Nat.two_pow_pos a) h

theorem bitLen_mul (o k : Nat) (h0 : o ≠ 0) (h : o * 2 ^ k < 2 ^ 64) : Lib.bitLen (o * 2 ^ k) = k + Lib.bitLen o := by
  rw [Lib.bitLen_shift k (o * 2 ^ k) (Nat.le_mul_of_pos_left _ (by omega)) h, Nat.mul_div_cancel _ (Nat.two_pow_pos k)]

theorem natAbs_sg (s : Bool) (n : Nat) : (sg s n).natAbs = n := by cases s <;> simp [sg]

theorem sig_few {v : Nat} {s : Bool} {m : Nat} {p : Int} (hr : double.read v = .number s m p) (hf : Few v) {o k : Nat} (hm : m = o * 2 ^ k) (ho : o % 2 = 1) (hm64 : m < 2 ^ 64) : Lib.bitLen m ≤ k + 26 := by
  obtain ⟨z, j, hz, hb⟩ := hf
  unfold val at hz
  rw [hr] at hz
  simp only [Option.some.injEq] at hz
  have h := congrArg Int.natAbs hz
  rw [natAbs_sg, Int.natAbs_mul, Int.natAbs_natCast] at h
  have hz0 : z.natAbs ≠ 0 := by
    intro e
    rw [e, Nat.zero_mul, hm] at h
    have h1 := Nat.two_pow_pos k
    have h2 := Nat.two_pow_pos (p + 1074).toNat
    have h3 : 0 < o * 2 ^ k * 2 ^ (p + 1074).toNat := Nat.mul_pos (Nat.mul_pos (by omega) h1) h2
    omega
  obtain ⟨o', i, e, ho'⟩ := odd_part (z.natAbs + 1) z.natAbs hz0 (by omega)
  rw [hm, e, Nat.mul_assoc, ← Nat.pow_add, Nat.mul_assoc, ← Nat.pow_add] at h
  have hoo := odd_unique _ _ _ _ h ho ho'
  have hle : o' ≤ z.natAbs := by rw [e]; exact Nat.le_mul_of_pos_right _ (Nat.two_pow_pos i)
  have hb26 : Lib.bitLen o ≤ 26 := Lib.bitLen_le o 26 (by omega) (by rw [show (2 : Nat) ^ 26 = 67108864 from rfl]; omega)
  rw [hm, bitLen_mul o k (by omega) (by rw [← hm]; exact hm64)]
  omega

/-- The bits of a finite double: its exponent field and its fraction field. -/
theorem mant_bits {b : Nat} {s : Bool} {m : Nat} {p : Int} (hr : double.read b = .number s m p) :
    (b / 4503599627370496 % 2048 = 0 → m = b % 4503599627370496) ∧ (b / 4503599627370496 % 2048 ≠ 0 → m = b % 4503599627370496 + 4503599627370496) := by
  have e1 : double.signWeight = 9223372036854775808 := rfl
  have e2 : double.binade = 4503599627370496 := rfl
  have e3 : double.infRung = 9218868437227405312 := rfl
  unfold Format.read at hr
  simp only [e1, e2, e3] at hr
  split at hr
  · cases hr
    constructor <;> omega
  · split at hr
    · cases hr
      constructor <;> omega
    · split at hr <;> cases hr

/-- The lowest bit of a number that is not nought. -/
theorem low_bit (o k : Nat) (ho : o % 2 = 1) (hx : o * 2 ^ k < 2 ^ 64) : (o * 2 ^ k) &&& (2 ^ 64 - o * 2 ^ k) = 2 ^ k := by
  have hk : k < 64 := by
    by_cases h : k < 64
    · exact h
    · exfalso
      have h1 : 2 ^ 64 ≤ 2 ^ k := Nat.pow_le_pow_right (by omega) (by omega)
      have h2 : 1 * 2 ^ k ≤ o * 2 ^ k := Nat.mul_le_mul_right _ (by omega)
      omega
  have hkp := Nat.two_pow_pos k
  obtain ⟨a, ha⟩ : ∃ a, o = 2 * a + 1 := ⟨o / 2, by omega⟩
  -- both numbers over the last k + 1 digits
  have e1 : o * 2 ^ k = 2 ^ k * o + 0 := by rw [Nat.mul_comm]; rfl
  have h64 : (2 : Nat) ^ 64 = 2 ^ k * 2 ^ (64 - k) := by rw [← Nat.pow_add]; congr 1; omega
  have ho64 : o < 2 ^ (64 - k) := by
    rw [h64, Nat.mul_comm] at hx
    exact Nat.lt_of_mul_lt_mul_left hx
  have e2 : 2 ^ 64 - o * 2 ^ k = 2 ^ k * (2 ^ (64 - k) - o) + 0 := by rw [h64, Nat.mul_comm o, ← Nat.mul_sub]; rfl
  apply Nat.eq_of_testBit_eq
  intro i
  rw [Nat.testBit_and, e2, e1, Nat.testBit_two_pow_mul_add _ hkp, Nat.testBit_two_pow_mul_add _ hkp, Nat.testBit_two_pow]
  by_cases hi : i < k
  · rw [if_pos hi, if_pos hi]
    simp; omega
  · rw [if_neg hi, if_neg hi]
    obtain ⟨d, hd⟩ : ∃ d, 64 - k = d + 1 := ⟨64 - k - 1, by omega⟩
    have e3 : 2 ^ (64 - k) - o = 2 * (2 ^ d - a - 1) + 1 := by rw [hd, Nat.pow_succ] at ho64 ⊢; omega
    have hda : a < 2 ^ d := by rw [hd, Nat.pow_succ] at ho64; omega
    rw [e3, ha]
    by_cases hik : i = k
    · subst hik
      simp
    · obtain ⟨r, hr⟩ : ∃ r, i - k = r + 1 := ⟨i - k - 1, by omega⟩
      rw [hr, Nat.testBit_succ, Nat.testBit_succ, show (2 * a + 1) / 2 = a by omega, show (2 * (2 ^ d - a - 1) + 1) / 2 = 2 ^ d - a - 1 by omega]
      rw [show 2 ^ d - a - 1 = 2 ^ d - (a + 1) by omega, Nat.testBit_two_pow_sub_succ hda]
      have : decide (k = i) = false := by simp; omega
      rw [this]
      cases a.testBit r <;> simp
end Go.Proofs.YbulkcwpuDoor.Fp
