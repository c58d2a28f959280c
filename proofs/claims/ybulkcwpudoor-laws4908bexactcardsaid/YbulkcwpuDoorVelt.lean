/-
  VELTKAMP's SPLITTING of a double of 53 digits: the two parts add up to it, and have at most 26 significant digits each. No Go text in sight.
-/
import Derived.Test.YbulkcwpuDoorFp2
namespace Go.Proofs.YbulkcwpuDoor.Fp
open Ieee

theorem rn_scale (u t : Nat) (h : 4503599627370496 ≤ u) : rn (u * 2 ^ t) = rn u * 2 ^ t := by
  have h0 : u ≠ 0 := by omega
  have hl : 52 ≤ u.log2 := by rw [Nat.le_log2 h0]; exact h
  unfold rn
  rw [log2_mul u t h0, show u.log2 + t - 52 = u.log2 - 52 + t by omega, cut_scale false u (u.log2 - 52) t h0 (by omega), Nat.pow_add, Nat.mul_assoc]

theorem rn_at (u k : Nat) (h1 : 2 ^ (52 + k) ≤ u) (h2 : u < 2 ^ (53 + k)) : ∃ q, rn u = q * 2 ^ k ∧ 2 * rn u ≤ 2 * u + 2 ^ k ∧ 2 * u ≤ 2 * rn u + 2 ^ k := by
  have hp := Nat.two_pow_pos (52 + k)
  have h0 : u ≠ 0 := by omega
  have hl : u.log2 = 52 + k := by
    rw [Nat.log2_eq_iff h0]
    exact ⟨h1, by rwa [show 52 + k + 1 = 53 + k by omega]⟩
  unfold rn
  rw [hl, show 52 + k - 52 = k by omega, cut_eq _ _ _ (by omega)]
  refine ⟨_, rfl, ?_⟩
  have hd := Nat.div_add_mod u (2 ^ k)
  have hm := Nat.mod_lt u (Nat.two_pow_pos k)
  generalize hq : u / 2 ^ k = q at *
  generalize hr : u % 2 ^ k = r at *
  generalize 2 ^ k = X at *
  have e : (q + 1) * X = X * q + X := by rw [Nat.add_mul, Nat.one_mul, Nat.mul_comm]
  have e0 : (q + 0) * X = X * q := by rw [Nat.add_zero, Nat.mul_comm]
  split
  · rw [e]; omega
  · rw [e0]; omega

/-- The splitting, in whole numbers. -/
theorem velt (x : Nat) (hx1 : 4503599627370496 ≤ x) (hx2 : x < 9007199254740992) : ∃ C D h : Nat, rn (134217729 * x) = C ∧ x ≤ C ∧ 4503599627370496 ≤ C - x ∧ C - x < 2 ^ 90 ∧ rn (C - x) = D ∧ D ≤ C ∧ C - D = h * 134217728 ∧ h ≤ 67108864 ∧
    x ≤ h * 134217728 + 67108864 ∧ h * 134217728 ≤ x + 67108864 := by
  have p79 : (2 : Nat) ^ 79 = 604462909807314587353088 := rfl
  have p80 : (2 : Nat) ^ 80 = 1208925819614629174706176 := rfl
  have p81 : (2 : Nat) ^ 81 = 2417851639229258349412352 := rfl
  have p90 : (2 : Nat) ^ 90 = 1237940039285380274899124224 := rfl
  have p27 : (2 : Nat) ^ 27 = 134217728 := rfl
  have p28 : (2 : Nat) ^ 28 = 268435456 := rfl
  -- the product, rounded
  obtain ⟨C, hC, q, hq, hlo, hhi⟩ : ∃ C, rn (134217729 * x) = C ∧ ∃ q, C = q * 134217728 ∧ 604462909807314587353088 ≤ C - x ∧ C - x ≤ 1208925819614629174706176 := by
    by_cases h80 : 134217729 * x < 2 ^ 80
    · obtain ⟨q, hq, h1, h2⟩ := rn_at (134217729 * x) 27 (by rw [show 52 + 27 = 79 from rfl, p79]; omega) (by rw [show 53 + 27 = 80 from rfl]; exact h80)
      rw [p27] at hq h1 h2
      rw [p80] at h80
      refine ⟨_, rfl, q, hq, ?_, ?_⟩
      all_goals generalize rn (134217729 * x) = C at hq h1 h2
      · by_cases e : x = 4503599627370496
        · subst e; omega
        · have : 4503599627370497 ≤ x := by omega
          omega
      · omega
    · obtain ⟨q, hq, h1, h2⟩ := rn_at (134217729 * x) 28 (by rw [show 52 + 28 = 80 from rfl]; omega) (by rw [show 53 + 28 = 81 from rfl, p81]; omega)
      rw [p28] at hq h1 h2
      rw [p80] at h80
      refine ⟨_, rfl, 2 * q, ?_, ?_, ?_⟩
      all_goals generalize rn (134217729 * x) = C at hq h1 h2
      · rw [hq, show (268435456 : Nat) = 2 * 134217728 from rfl, ← Nat.mul_assoc, Nat.mul_comm q 2]
      · have k1 : 134217729 * x ≤ C + 134217728 := by omega
        have k2 : x ≤ C - x := by omega
        clear h1 h2 hq
        omega
      · have k1 : C ≤ 134217729 * x + 134217728 := by omega
        clear h1 h2 hq h80
        omega
  -- the difference, rounded
  obtain ⟨D, hD, r, hr, hd1, hd2⟩ : ∃ D, rn (C - x) = D ∧ ∃ r, D = r * 134217728 ∧ 2 * D ≤ 2 * (C - x) + 134217728 ∧ 2 * (C - x) ≤ 2 * D + 134217728 := by
    by_cases h80 : C - x < 2 ^ 80
    · obtain ⟨r, hr, h1, h2⟩ := rn_at (C - x) 27 (by rw [show 52 + 27 = 79 from rfl, p79]; omega) (by rw [show 53 + 27 = 80 from rfl]; exact h80)
      rw [p27] at hr h1 h2
      exact ⟨_, rfl, r, hr, h1, h2⟩
    · rw [p80] at h80
      have e : C - x = 1 * 2 ^ 80 := by rw [p80]; omega
      refine ⟨_, rfl, 9007199254740992, ?_, ?_, ?_⟩
      all_goals rw [e, rn_exact 1 80 (by omega), p80]
      all_goals omega
  refine ⟨C, D, q - r, hC, by omega, by omega, by rw [p90]; omega, hD, by omega, ?_, ?_, ?_, ?_⟩
  · rw [Nat.sub_mul]; omega
  · have := Nat.sub_mul q r 134217728; omega
  · have := Nat.sub_mul q r 134217728; omega
  · have := Nat.sub_mul q r 134217728; omega
end Go.Proofs.YbulkcwpuDoor.Fp
