/-
  The walks of math/bits.TrailingZeros64 (function 10) and 'zzs4908bsig' (function 6).
-/
import Derived.Test.YbulkcwpuDoorRows
import Derived.Test.YbulkcwpuDoorSigP
import Derived.Test.YbulkcwpuDoorLen
import Derived.Test.YbulkcwpuDoorLdexp
namespace Go.Proofs.YbulkcwpuDoor
open Go.RowKit
set_option linter.unusedVariables false

/-- What the listed table holds. -/
def tab : List Int := [0, 1, 56, 2, 57, 49, 28, 3, 61, 58, 42, 50, 38, 29, 17, 4, 62, 47, 59, 36, 45, 43, 51, 22, 53, 39, 33, 30, 24, 18, 12, 5, 63, 55, 48, 27, 60, 41, 37, 16, 46, 35, 44, 21, 52, 32, 23, 11, 54, 26, 40, 15, 34, 20, 31, 10, 25, 14, 19, 9, 13, 8, 7, 6]

theorem tab_at : ∀ k : Fin 64, tab.getD ((2 ^ k.val * 285870213051353865 % 18446744073709551616) / 288230376151711744) 0 = (k.val : Int) ∧ (2 ^ k.val * 285870213051353865 % 18446744073709551616) / 288230376151711744 < 64 := by decide +kernel

theorem tz_index (o k x : Nat) (hx : x = o * 2 ^ k) (ho : o % 2 = 1) (hx64 : x < 18446744073709551616) : k < 64 ∧ ∃ j : Nat, j < 64 ∧ tab.getD j 0 = (k : Int) ∧
    IntKind.u64.wrap (bits .and .u64 (x : Int) (IntKind.u64.wrap (-(x : Int))) * 285870213051353865) / 288230376151711744 = (j : Int) := by
  have hk : k < 64 := by
    by_cases h : k < 64
    · exact h
    · exfalso
      have h1 : 2 ^ 64 ≤ 2 ^ k := Nat.pow_le_pow_right (by omega) (by omega)
      have h2 : 1 * 2 ^ k ≤ o * 2 ^ k := Nat.mul_le_mul_right _ (by omega)
      rw [show (2 : Nat) ^ 64 = 18446744073709551616 from rfl] at h1
      omega
  have hpos : 0 < x := by rw [hx]; exact Nat.mul_pos (by omega) (Nat.two_pow_pos k)
  have e1 : IntKind.u64.wrap (-(x : Int)) = ((18446744073709551616 - x : Nat) : Int) := by rw [IntKind.wrap_u64]; omega
  have e2 := u64_and_nat x (18446744073709551616 - x) hx64 (by omega)
  have e3 : x &&& (18446744073709551616 - x) = 2 ^ k := by
    rw [hx]; exact Fp.low_bit o k ho (by rw [← hx]; exact hx64)
  rw [e1, e2, e3]
  have ht := tab_at ⟨k, hk⟩
  refine ⟨hk, _, ht.2, ht.1, ?_⟩
  rw [IntKind.wrap_u64]
  generalize (2 : Nat) ^ k = X
  omega

set_option maxHeartbeats 400000 in
theorem tz_any (o k x : Nat) (hx : x = o * 2 ^ k) (ho : o % 2 = 1) (hx64 : x < 18446744073709551616) (w : World)
   (ht : ∀ i, i < 64 → w.cell? ⟨1, i, none⟩ = some (.int .u8 (tab.getD i 0))) :
    Calls Ybad.prog 10 #[.int .u64 x] w fun e w' => e = .returned (.int .i64 k) ∧ w' = w := by
  obtain ⟨hk, j, hj, hjk, hji⟩ := tz_index o k x hx ho hx64
  have hpos : 0 < x := by rw [hx]; exact Nat.mul_pos (by omega) (Nat.two_pow_pos k)
  have h0 : ((x : Int) == 0) = false := by simp; omega
  have hc := ht j hj
  rw [hjk] at hc
  have j1 : (j : Int) < 64 := by omega
  have k1 : (k : Int) < 64 := by omega
  clear ht hx hjk hk
  go_enter Ybad.func10, Ybad.ntmps10
  go_wp2_with fail
  go_ret
  exact ⟨rfl, rfl⟩

theorem field_bits (b : Nat) (hb : b < 18446744073709551616) : bits .and .u64 ((b : Int) / 4503599627370496) 2047 = ((b / 4503599627370496 % 2048 : Nat) : Int) := by
  have h := u64_and_nat (b / 4503599627370496) 2047 (by omega) (by omega)
  have e : b / 4503599627370496 &&& 2047 = b / 4503599627370496 % 2048 := Nat.and_two_pow_sub_one_eq_mod _ 11
  rw [e] at h
  rw [← h]
  congr 1

theorem fraction_bits (b : Nat) (hb : b < 18446744073709551616) : bits .and .u64 (b : Int) 4503599627370495 = ((b % 4503599627370496 : Nat) : Int) := by
  have h := u64_and_nat b 4503599627370495 hb (by omega)
  have e : b &&& 4503599627370495 = b % 4503599627370496 := Nat.and_two_pow_sub_one_eq_mod _ 52
  rw [e] at h
  exact h

theorem hidden_bit (f : Nat) (hf : f < 4503599627370496) : bits .or .u64 (f : Int) 4503599627370496 = ((f + 4503599627370496 : Nat) : Int) := by
  have h := join_bits 1 f (1 * 4503599627370496 + f) rfl hf (by omega) 1 rfl
  rw [Int.one_mul] at h
  rw [h, Nat.one_mul, Nat.add_comm]

set_option maxHeartbeats 800000 in
/-- 'zzs4908bsig' of a finite double of few digits gives at most 26. -/
theorem sig_any (b : Nat) (hb : b < 18446744073709551616) (hf : Fp.Few b) (w : World)
   (ht : ∀ i, i < 64 → w.cell? ⟨1, i, none⟩ = some (.int .u8 (tab.getD i 0))) :
    Calls Ybad.prog 6 #[.float .f64 b] w fun e w' => ∃ r : Int, e = .returned (.int .i64 r) ∧ r ≤ 26 ∧ w' = w := by
  obtain ⟨s, m, p, hr⟩ : ∃ s m p, Ieee.double.read b = .number s m p := by
    obtain ⟨z, j, hz, _⟩ := hf
    obtain ⟨s, m, p, h, _⟩ := Fp.val_read hz
    exact ⟨s, m, p, h⟩
  obtain ⟨n0, n1⟩ := Fp.mant_bits hr
  have g1 := field_bits b hb
  have g2 := fraction_bits b hb
  have g3 := hidden_bit (b % 4503599627370496) (by omega)
  have g4 := bits_run b w
  have hm53 : m < 9007199254740992 := by
    by_cases e : b / 4503599627370496 % 2048 = 0
    · have := n0 e; omega
    · have := n1 e; omega
  by_cases hm0 : m = 0
  · -- nought
    have he : b / 4503599627370496 % 2048 = 0 := by
      by_cases e : b / 4503599627370496 % 2048 = 0
      · exact e
      · have := n1 e; omega
    have hfr : b % 4503599627370496 = 0 := by have := n0 he; omega
    rw [he] at g1
    rw [hfr] at g2
    clear g3 n0 n1 hf ht he hfr hr hm53
    go_enter Ybad.func6, Ybad.ntmps6
    go_wp2_with fail
    go_ret
    exact ⟨0, rfl, by omega, rfl⟩
  · obtain ⟨o, k, hmo, ho⟩ := Fp.odd_part (m + 1) m hm0 (by omega)
    have hsig := Fp.sig_few hr hf hmo ho (by rw [show (2 : Nat) ^ 64 = 18446744073709551616 from rfl]; omega)
    have HT : Hid (∀ w : World, (∀ i, i < 64 → w.cell? ⟨1, i, none⟩ = some (.int .u8 (tab.getD i 0))) → Calls Ybad.prog 10 #[.int .u64 (m : Int)] w fun e w' => e = .returned (.int .i64 k) ∧ w' = w) := fun w h => tz_any o k m hmo ho (by omega) w h
    have HL : Hid (∀ w : World, Calls Ybad.prog 9 #[.int .u64 (m : Int)] w fun e w' => e = .returned (.int .i64 (Lib.bitLen m)) ∧ w' = w) := fun w => by
      have := Ybad.bits_Len64 (m : Int) w (by omega) (by omega)
      rwa [Int.toNat_natCast] at this
    have hL64 : Lib.bitLen m ≤ 53 := Lib.bitLen_le m 53 (by omega) hm53
    have hk64 : k < 64 := (tz_index o k m hmo ho (by omega)).1
    have m0 : ((m : Int) == 0) = false := by simp; omega
    by_cases e : b / 4503599627370496 % 2048 = 0
    · have hme := n0 e
      rw [e] at g1
      rw [← hme] at g2
      clear g3 n0 n1 hf e hme hr hmo
      go_enter Ybad.func6, Ybad.ntmps6
      go_wp2_with (first | (go_at_call 9; refine (HL.out _).mono ?_; rintro e w' ⟨rfl, rfl⟩) | (go_at_call 10; refine (HT.out _ ht).mono ?_; rintro e w' ⟨rfl, rfl⟩))
      go_ret
      exact ⟨_, rfl, by omega, rfl⟩
    · have hme := n1 e
      rw [← hme] at g3
      obtain ⟨E, hE⟩ : ∃ E : Nat, b / 4503599627370496 % 2048 = E := ⟨_, rfl⟩
      obtain ⟨F, hF⟩ : ∃ F : Nat, b % 4503599627370496 = F := ⟨_, rfl⟩
      rw [hE] at g1 e
      rw [hF] at g2 g3
      have e0 : ((E : Int) != 0) = true := by simpa using e
      clear n0 n1 hf hme hr hmo hE hF
      go_enter Ybad.func6, Ybad.ntmps6
      go_wp2_with (first | (go_at_call 9; refine (HL.out _).mono ?_; rintro e w' ⟨rfl, rfl⟩) | (go_at_call 10; refine (HT.out _ ht).mono ?_; rintro e w' ⟨rfl, rfl⟩))
      go_ret
      exact ⟨_, rfl, by omega, rfl⟩
end Go.Proofs.YbulkcwpuDoor
