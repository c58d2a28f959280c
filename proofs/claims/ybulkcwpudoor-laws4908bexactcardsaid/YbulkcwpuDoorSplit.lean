/-
  VELTKAMP's SPLITTING, of doubles; and how many significant digits a double has. No Go text in sight.
-/
import Derived.Test.YbulkcwpuDoorVelt
import Derived.Lib.BitFns
namespace Go.Proofs.YbulkcwpuDoor.Fp
open Ieee

theorem rz_neg (z : Int) : rz (-z) = - rz z := by
  unfold rz
  rw [Int.natAbs_neg]
  by_cases h0 : z = 0
  · subst h0; simp [rn_zero, sg]
  · by_cases h : z < 0
    · rw [decide_eq_true h, decide_eq_false (show ¬ -z < 0 by omega)]
      simp [sg]
    · rw [decide_eq_false h, decide_eq_true (show -z < 0 by omega)]
      simp [sg]

theorem rz_nat (n : Nat) : rz (n : Int) = rn n := by
  unfold rz
  have h : ¬ (n : Int) < 0 := by omega
  simp [sg, h]

/-- A sign as a factor. -/
def sn (s : Bool) : Int := if s then -1 else 1
theorem sg_sn (s : Bool) (n : Nat) : sg s n = sn s * n := by cases s <;> simp [sg, sn]
theorem rz_sn (s : Bool) (z : Int) : rz (sn s * z) = sn s * rz z := by
  cases s
  · simp [sn]
  · simp [sn, rz_neg]
theorem sn_abs (s : Bool) (z : Int) : (sn s * z).natAbs = z.natAbs := by cases s <;> simp [sn]

/-- Few significant digits: the number is q * 2^j, q at most 2^26. -/
def Few (v : Nat) : Prop := ∃ (z : Int) (j : Nat), val v = some (z * (2 ^ j : Nat)) ∧ z.natAbs ≤ 67108864

theorem split_zero {v : Nat} (hv : val v = some 0) (hh : High v) :
    ∃ c d h l s, double.mul 4728779608772575232 v = some c ∧ double.sub c v = some d ∧ double.sub c d = some h ∧ double.sub v h = some l ∧ double.add h l = some s ∧ double.order s v = some .eq ∧ Few h ∧ Few l := by
  have r0 : rz 0 = 0 := by simp [rz, rn_zero, sg]
  have l0 : (0 : Int).natAbs.log2 ≤ 2000 := by simp [show Nat.log2 0 = 0 from rfl]
  obtain ⟨c, hc, vc⟩ := mul_high hv hh (by rw [Int.mul_zero]; exact l0)
  rw [Int.mul_zero, r0] at vc
  obtain ⟨d, hd, vd⟩ := sub_val vc hv (by rw [Int.sub_self]; exact l0)
  rw [Int.sub_self, r0] at vd
  obtain ⟨h, hh', vh⟩ := sub_val vc vd (by rw [Int.sub_self]; exact l0)
  rw [Int.sub_self, r0] at vh
  obtain ⟨l, hl, vl⟩ := sub_val hv vh (by rw [Int.sub_self]; exact l0)
  rw [Int.sub_self, r0] at vl
  obtain ⟨s, hs, vs⟩ := add_val vh vl (by rw [Int.add_zero]; exact l0)
  rw [Int.add_zero, r0] at vs
  refine ⟨c, d, h, l, s, hc, hd, hh', hl, hs, ?_, ⟨0, 0, by simpa using vh, by simp⟩, ⟨0, 0, by simpa using vl, by simp⟩⟩
  rw [order_val vs hv]; rfl

theorem lo_bd (x q : Nat) (h1 : x ≤ q * 134217728 + 67108864) (h2 : q * 134217728 ≤ x + 67108864) : ((x : Int) - q * 134217728).natAbs ≤ 67108864 := by omega

theorem cast_mul3 (b c : Nat) : 134217729 * ((b * c : Nat) : Int) = ((134217729 * b * c : Nat) : Int) := by
  rw [Nat.mul_assoc, Int.natCast_mul 134217729]
  rfl

theorem cast_sub_mul (C x T : Nat) (h : x ≤ C) : ((C * T : Nat) : Int) - ((x * T : Nat) : Int) = (((C - x) * T : Nat) : Int) := by
  rw [Nat.sub_mul]
  have := Nat.mul_le_mul_right T h
  omega

theorem abs_sub_mul (C D T : Nat) (h : D ≤ C) : (((C * T : Nat) : Int) - ((D * T : Nat) : Int)).natAbs = (C - D) * T := by
  rw [cast_sub_mul C D T h, Int.natAbs_natCast]

theorem split_full {v : Nat} (sgn : Bool) (x t : Nat) (hx1 : 4503599627370496 ≤ x) (hx2 : x < 9007199254740992) (ht : t ≤ 1900) (hv : val v = some (sg sgn (x * 2 ^ t))) (hh : High v) :
    ∃ c d h l s, double.mul 4728779608772575232 v = some c ∧ double.sub c v = some d ∧ double.sub c d = some h ∧ double.sub v h = some l ∧ double.add h l = some s ∧ double.order s v = some .eq ∧ Few h ∧ Few l := by
  obtain ⟨C, D, q, hC, hxC, hCx1, hCx2, hD, hDC, hq, hq2, hl1, hl2⟩ := velt x hx1 hx2
  have lg : ∀ (y : Nat), y < 2 ^ 91 → (y * 2 ^ t).log2 ≤ 2000 := by
    intro y hy
    have := log2_le y t 90 hy
    omega
  have p90 : (2 : Nat) ^ 90 = 1237940039285380274899124224 := rfl
  have p91 : (2 : Nat) ^ 91 = 2475880078570760549798248448 := rfl
  rw [p90] at hCx2
  have k27 : ((134217728 : Nat) : Int) = 134217728 := rfl
  generalize hT : (2 ^ t : Nat) = T at *
  have va : val v = some (sn sgn * ((x * T : Nat) : Int)) := by rw [hv, sg_sn]
  -- the product
  have e1 : 134217729 * (sn sgn * ((x * T : Nat) : Int)) = sn sgn * ((134217729 * x * T : Nat) : Int) := by
    rw [Int.mul_left_comm, cast_mul3]
  obtain ⟨c, hc, vc⟩ := mul_high va hh (by rw [e1, sn_abs, Int.natAbs_natCast]; exact lg _ (by rw [p91]; omega))
  rw [e1, rz_sn, rz_nat, ← hT, rn_scale _ _ (by omega), hC, hT] at vc
  -- the difference
  have e2 : sn sgn * ((C * T : Nat) : Int) - sn sgn * ((x * T : Nat) : Int) = sn sgn * (((C - x) * T : Nat) : Int) := by
    rw [← Int.mul_sub, cast_sub_mul C x T hxC]
  obtain ⟨d, hd, vd⟩ := sub_val vc va (by rw [e2, sn_abs, Int.natAbs_natCast]; exact lg _ (by rw [p91]; omega))
  rw [e2, rz_sn, rz_nat, ← hT, rn_scale _ _ hCx1, hD, hT] at vd
  -- the first part
  have e3 : sn sgn * ((C * T : Nat) : Int) - sn sgn * ((D * T : Nat) : Int) = (sn sgn * q) * ((2 ^ (27 + t) : Nat) : Int) := by
    rw [← Int.mul_sub, Int.mul_assoc, cast_sub_mul C D T hDC, hq, Nat.pow_add, hT, show (2 : Nat) ^ 27 = 134217728 from rfl, Nat.mul_assoc, Int.natCast_mul q]
  have hCD : C - D < 2 ^ 91 := by rw [p91]; omega
  obtain ⟨h, hh', vh⟩ := sub_val vc vd (by
    rw [← Int.mul_sub, sn_abs]
    rw [abs_sub_mul C D T hDC]; exact lg _ hCD)
  rw [e3, rz_exact _ _ (by rw [sn_abs]; omega)] at vh
  -- the second part
  have e4 : sn sgn * ((x * T : Nat) : Int) - (sn sgn * q) * ((2 ^ (27 + t) : Nat) : Int) = (sn sgn * ((x : Int) - q * 134217728)) * ((2 ^ t : Nat) : Int) := by
    rw [Int.mul_assoc, Int.mul_assoc, ← Int.mul_sub]; congr 1
    rw [Nat.pow_add, hT, show (2 : Nat) ^ 27 = 134217728 from rfl, Int.sub_mul, Int.natCast_mul, Int.natCast_mul, k27, Int.mul_assoc]
  have hlt : (sn sgn * ((x : Int) - q * 134217728)).natAbs ≤ 67108864 := by rw [sn_abs]; exact lo_bd x q hl1 hl2
  have hlt' : (sn sgn * ((x : Int) - q * 134217728)).natAbs < 9007199254740992 := Nat.lt_of_le_of_lt hlt (by decide)
  obtain ⟨l, hl, vl⟩ := sub_val va vh (by rw [e4, Int.natAbs_mul, Int.natAbs_natCast, hT]; exact lg _ (Nat.lt_of_lt_of_le hlt' (by rw [p91]; decide)))
  rw [e4, rz_exact _ _ hlt'] at vl
  -- their sum
  have e5 : (sn sgn * q) * ((2 ^ (27 + t) : Nat) : Int) + (sn sgn * ((x : Int) - q * 134217728)) * ((2 ^ t : Nat) : Int) = (sn sgn * x) * ((2 ^ t : Nat) : Int) := by
    rw [← e4, hT, Int.mul_assoc, Int.mul_assoc, Int.natCast_mul]; omega
  obtain ⟨s, hs, vs⟩ := add_val vh vl (by rw [e5, Int.natAbs_mul, Int.natAbs_natCast, hT, sn_abs]; exact lg _ (by rw [p91]; omega))
  rw [e5, rz_exact _ _ (by rw [sn_abs]; omega)] at vs
  refine ⟨c, d, h, l, s, hc, hd, hh', hl, hs, ?_, ⟨_, _, vh, by rw [sn_abs]; omega⟩, ⟨_, _, vl, hlt⟩⟩
  rw [order_val vs va, hT, Int.mul_assoc, Int.natCast_mul]
  simp
end Go.Proofs.YbulkcwpuDoor.Fp
