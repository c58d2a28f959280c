/-
  Doubles as whole numbers of units, continued: the words of normal numbers; a whole number as a double; what Veltkamp's splitting gives for a number of at most 26 digits. No Go text in sight.
-/
import Derived.Test.YbulkcwpuDoorFp
namespace Go.Proofs.YbulkcwpuDoor.Fp
open Ieee

theorem read_norm (neg : Bool) (E F : Nat) (hF : F < 4503599627370496) (h1 : 1 ≤ E) (h2 : E ≤ 2046) : double.read (double.word neg (E * 4503599627370496 + F)) = .number neg (4503599627370496 + F) (-1074 + (E - 1 : Nat)) := by
  rw [read_word _ _ (by omega), if_neg (by omega), if_pos (by omega)]
  rw [show (E * 4503599627370496 + F) % 4503599627370496 = F by omega, show (E * 4503599627370496 + F) / 4503599627370496 = E by omega]

theorem val_norm (neg : Bool) (E F : Nat) (hF : F < 4503599627370496) (h1 : 1 ≤ E) (h2 : E ≤ 2000) : val (double.word neg (E * 4503599627370496 + F)) = some (sg neg ((4503599627370496 + F) * 2 ^ (E - 1))) := by
  have h := val_word neg (E - 1) (4503599627370496 + F) (by omega) (by omega)
  rwa [show (E - 1) * 4503599627370496 + (4503599627370496 + F) = E * 4503599627370496 + F by omega] at h

theorem read_zero (neg : Bool) : double.read (double.word neg 0) = .number neg 0 (-1074) := by
  rw [read_word _ _ (by omega), if_pos (by omega)]

theorem val_zero (neg : Bool) : val (double.word neg 0) = some 0 := by
  unfold val
  rw [read_zero]
  cases neg <;> simp [sg]

theorem word_false (r : Nat) : double.word false r = r := rfl

theorem log2_le (q t k : Nat) (h : q < 2 ^ (k + 1)) : (q * 2 ^ t).log2 ≤ k + t := by
  by_cases h0 : q = 0
  · subst h0; simp [show Nat.log2 0 = 0 from rfl]
  · rw [log2_mul q t h0]
    have := (Nat.log2_lt h0).2 h
    omega

/-- A whole number below 2^53 as a double. -/
theorem ofInt_norm (M : Nat) (h0 : 0 < M) (h1 : M < 9007199254740992) : ∃ L F, L ≤ 52 ∧ F < 4503599627370496 ∧ 4503599627370496 + F = M * 2 ^ (52 - L) ∧ floatOfInt .f64 (M : Int) = (1023 + L) * 4503599627370496 + F := by
  have hl : M.log2 ≤ 52 := by have := (Nat.log2_lt (n := M) (k := 53) (by omega)).2 (by omega); omega
  have b1 : 2 ^ M.log2 ≤ M := Nat.log2_self_le (by omega)
  have b2 : M < 2 ^ (M.log2 + 1) := Nat.lt_log2_self
  have c1 : 4503599627370496 ≤ M * 2 ^ (52 - M.log2) := by
    have := Nat.mul_le_mul_right (2 ^ (52 - M.log2)) b1
    rw [← Nat.pow_add, show M.log2 + (52 - M.log2) = 52 by omega] at this
    exact this
  have c2 : M * 2 ^ (52 - M.log2) < 9007199254740992 := by
    have := Nat.mul_lt_mul_of_pos_right b2 (Nat.two_pow_pos (52 - M.log2))
    rw [← Nat.pow_add, show M.log2 + 1 + (52 - M.log2) = 53 by omega] at this
    exact this
  refine ⟨M.log2, M * 2 ^ (52 - M.log2) - 4503599627370496, hl, by omega, by omega, ?_⟩
  show double.nearest (decide ((M : Int) < 0)) (M : Int).natAbs 0 = _
  obtain ⟨P, hP⟩ : ∃ P : Nat, P = 1074 := ⟨_, rfl⟩
  have e : M * 2 ^ ((0 : Int) + 1074).toNat = M * 2 ^ P := by rw [show ((0 : Int) + 1074).toNat = P by omega]
  rw [show decide ((M : Int) < 0) = false by simp, Int.natAbs_natCast, nearest_eq false M 0 (by omega) _ e.symm, word_false]
  have hlog : (M * 2 ^ P).log2 = M.log2 + P := log2_mul M P (by omega)
  rw [hlog]
  have hcut : Toward.even.cut false (M * 2 ^ P) (M.log2 + P - 52) = M * 2 ^ (52 - M.log2) := by
    have c := cut_whole false (M * 2 ^ (52 - M.log2)) (M.log2 + P - 52)
    rwa [Nat.mul_assoc, ← Nat.pow_add, show 52 - M.log2 + (M.log2 + P - 52) = P by omega] at c
  rw [hcut, show double.infRung = 9218868437227405312 from rfl, Nat.min_eq_left (by omega)]
  omega

theorem ofInt_zero : floatOfInt .f64 0 = 0 := by
  show double.nearest (decide ((0 : Int) < 0)) (0 : Int).natAbs 0 = 0
  simp [Format.nearest, Format.word]

/-- Once times a normal number. -/
theorem one_mul (E F : Nat) (hF : F < 4503599627370496) (h1 : 60 ≤ E) (h2 : E ≤ 2000) : double.mul 4607182418800017408 (E * 4503599627370496 + F) = some (E * 4503599627370496 + F) := by
  have r1 : double.read 4607182418800017408 = .number false 4503599627370496 (-52) := by
    rw [show (4607182418800017408 : Nat) = double.word false (1023 * 4503599627370496 + 0) from rfl, read_norm _ _ _ (by omega) (by omega) (by omega)]
    rfl
  have r2 := read_norm false E F hF (by omega) (by omega)
  rw [word_false] at r2
  unfold Format.mul
  rw [r1, r2]
  show some (double.nearest (false ^^ false) (4503599627370496 * (4503599627370496 + F)) (-52 + (-1074 + ((E - 1 : Nat) : Int)))) = _
  have e : 4503599627370496 * (4503599627370496 + F) * 2 ^ (-52 + (-1074 + ((E - 1 : Nat) : Int)) + 1074).toNat = (4503599627370496 + F) * 2 ^ (E - 1) := by
    rw [show (-52 + (-1074 + ((E - 1 : Nat) : Int)) + 1074).toNat = E - 53 by omega, show E - 1 = 52 + (E - 53) by omega, Nat.pow_add 2 52]
    rw [show (2 : Nat) ^ 52 = 4503599627370496 from rfl]
    generalize 2 ^ (E - 53) = X
    rw [Nat.mul_comm 4503599627370496 (4503599627370496 + F), Nat.mul_assoc]
  rw [nearest_eq _ _ _ (by omega) _ e.symm]
  have hl : (4503599627370496 + F).log2 = 52 := by
    rw [Nat.log2_eq_iff (by omega)]
    omega
  rw [log2_mul _ _ (by omega), hl, show 52 + (E - 1) - 52 = E - 1 by omega, cut_whole, show double.infRung = 9218868437227405312 from rfl, Nat.min_eq_left (by omega)]
  show some (double.word false _) = _
  rw [word_false, show (E - 1) * 4503599627370496 + (4503599627370496 + F) = E * 4503599627370496 + F by omega]

/-- Where the product by 2^27 + 1 is in reach: the last digit does not lie too low, or the number is nought. -/
def High (v : Nat) : Prop := ∀ s m p, double.read v = .number s m p → -1049 ≤ p ∨ m = 0

theorem mul_high {x : Nat} {a : Int} (hx : val x = some a) (hh : High x) (hl : (134217729 * a).natAbs.log2 ≤ 2000) : ∃ r, double.mul 4728779608772575232 x = some r ∧ val r = some (rz (134217729 * a)) := by
  obtain ⟨s, m, p, h1, h2, h3⟩ := val_read hx
  rcases hh s m p h1 with hp | rfl
  · exact mul_val hx h1 hp hl
  · have hc : double.read 4728779608772575232 = .number false 4503599660924928 (-25) := by
      rw [show (4728779608772575232 : Nat) = double.word false 4728779608772575232 from rfl, read_word _ _ (by omega)]
      rfl
    have ha : a = 0 := by rw [h3]; cases s <;> simp [sg]
    subst ha
    unfold Format.mul
    rw [hc, h1]
    refine ⟨_, rfl, ?_⟩
    show val (double.nearest (false ^^ s) (4503599660924928 * 0) (-25 + p)) = _
    have : double.nearest (false ^^ s) (4503599660924928 * 0) (-25 + p) = double.word s 0 := by
      cases s <;> simp [Format.nearest]
    rw [this, val_zero]
    simp [rz, rn_zero, sg]

/-- VELTKAMP's SPLITTING of a number of at most 26 digits: all is in the first part. -/
theorem split_short {v : Nat} (z : Int) (t : Nat) (hz : z.natAbs < 67108864) (ht : t ≤ 1900) (hv : val v = some (z * (2 ^ t : Nat))) (hh : High v) :
    ∃ c d h l, double.mul 4728779608772575232 v = some c ∧ double.sub c v = some d ∧ double.sub c d = some h ∧ double.sub v h = some l ∧ double.order h v = some .eq ∧ double.order l 0 = some .eq := by
  have lg : ∀ y : Int, y.natAbs < 9007199254740992 → (y * ((2 ^ t : Nat) : Int)).natAbs.log2 ≤ 2000 := by
    intro y hy
    rw [Int.natAbs_mul, Int.natAbs_natCast]
    have := log2_le y.natAbs t 52 (by rw [show (2 : Nat) ^ (52 + 1) = 9007199254740992 from rfl]; exact hy)
    omega
  have e1 : 134217729 * (z * ((2 ^ t : Nat) : Int)) = (134217729 * z) * ((2 ^ t : Nat) : Int) := by rw [Int.mul_assoc]
  obtain ⟨c, hc, vc⟩ := mul_high hv hh (by rw [e1]; exact lg _ (by omega))
  rw [e1, rz_exact _ _ (by omega)] at vc
  have e2 : (134217729 * z) * ((2 ^ t : Nat) : Int) - z * ((2 ^ t : Nat) : Int) = (134217728 * z) * ((2 ^ t : Nat) : Int) := by
    rw [← Int.sub_mul]; congr 1; omega
  obtain ⟨d, hd, vd⟩ := sub_val vc hv (by rw [e2]; exact lg _ (by omega))
  rw [e2, rz_exact _ _ (by omega)] at vd
  have e3 : (134217729 * z) * ((2 ^ t : Nat) : Int) - (134217728 * z) * ((2 ^ t : Nat) : Int) = z * ((2 ^ t : Nat) : Int) := by
    rw [← Int.sub_mul]; congr 1; omega
  obtain ⟨h, hh', vh⟩ := sub_val vc vd (by rw [e3]; exact lg _ (by omega))
  rw [e3, rz_exact _ _ (by omega)] at vh
  have e4 : z * ((2 ^ t : Nat) : Int) - z * ((2 ^ t : Nat) : Int) = 0 * ((2 ^ t : Nat) : Int) := by rw [Int.sub_self, Int.zero_mul]
  obtain ⟨l, hl, vl⟩ := sub_val hv vh (by rw [e4]; exact lg _ (by omega))
  rw [e4, rz_exact _ _ (by omega), Int.zero_mul] at vl
  have v0 : val 0 = some 0 := val_zero false
  refine ⟨c, d, h, l, hc, hd, hh', hl, ?_, ?_⟩
  · rw [order_val vh hv]; simp
  · rw [order_val vl v0]; rfl

/-- The comparisons that math.ldexp makes of a normal number of middling size. -/
theorem orders (E F : Nat) (hF : F < 4503599627370496) (h1 : 1023 ≤ E) (h2 : E ≤ 1075) :
    (double.order (E * 4503599627370496 + F) 0 == some .eq) = false ∧ (double.order (E * 4503599627370496 + F) 9218868437227405311 == some .gt) = false ∧
    (double.order (E * 4503599627370496 + F) (E * 4503599627370496 + F) != some .eq) = false ∧ (double.order (E * 4503599627370496 + F) 4503599627370496 == some .lt) = false := by
  have vx := val_norm false E F hF (by omega) (by omega)
  rw [word_false] at vx
  have v0 : val 0 = some 0 := val_zero false
  have v1 : val 4503599627370496 = some 4503599627370496 := by
    have h := val_word false 0 4503599627370496 (by omega) (by omega)
    rw [Nat.zero_mul, Nat.zero_add, word_false, Nat.pow_zero, Nat.mul_one] at h
    exact h
  have hpos := Nat.two_pow_pos (E - 1)
  have hm : (4503599627370496 + F) * 2 ^ (E - 1) ≥ 4503599627370496 * 1 := Nat.mul_le_mul (by omega) (by omega)
  simp only [sg, Bool.false_eq_true, if_false] at vx
  refine ⟨?_, ?_, ?_, ?_⟩
  · rw [order_val vx v0]
    generalize (4503599627370496 + F) * 2 ^ (E - 1) = N at hm
    have : compare (N : Int) 0 = .gt := by
      show compareOfLessAndEq (N : Int) 0 = .gt
      unfold compareOfLessAndEq
      rw [if_neg (by omega), if_neg (by omega)]
    rw [this]; rfl
  · -- the greatest double
    have rm : double.read 9218868437227405311 = .number false 9007199254740991 971 := by
      rw [show (9218868437227405311 : Nat) = double.word false 9218868437227405311 from rfl, read_word _ _ (by omega)]
      rfl
    have vm : val 9218868437227405311 = some (sg false (9007199254740991 * 2 ^ ((971 : Int) + 1074).toNat)) := by
      unfold val; rw [rm]
    rw [order_val vx vm]
    have hlt : (4503599627370496 + F) * 2 ^ (E - 1) < 9007199254740991 * 2 ^ ((971 : Int) + 1074).toNat := by
      rw [show ((971 : Int) + 1074).toNat = (E - 1) + 1 + (2045 - E) by omega, Nat.pow_add, Nat.pow_add]
      generalize 2 ^ (E - 1) = X at hpos
      have hy := Nat.two_pow_pos (2045 - E)
      generalize 2 ^ (2045 - E) = Y at hy
      have k1 : (4503599627370496 + F) * X ≤ 9007199254740991 * X := Nat.mul_le_mul_right _ (by omega)
      have k2 : 9007199254740991 * (X * 2 ^ 1 * 1) ≤ 9007199254740991 * (X * 2 ^ 1 * Y) := Nat.mul_le_mul_left _ (Nat.mul_le_mul_left _ hy)
      omega
    simp only [sg, Bool.false_eq_true, if_false]
    generalize (4503599627370496 + F) * 2 ^ (E - 1) = N at hlt
    generalize 9007199254740991 * 2 ^ ((971 : Int) + 1074).toNat = M at hlt
    have : compare (N : Int) (M : Int) = .lt := by
      show compareOfLessAndEq (N : Int) M = .lt
      unfold compareOfLessAndEq
      rw [if_pos (by omega)]
    rw [this]; rfl
  · rw [order_val vx vx]; simp
  · rw [order_val vx v1]
    generalize (4503599627370496 + F) * 2 ^ (E - 1) = N at hm
    have : compare (N : Int) 4503599627370496 ≠ .lt := by
      show compareOfLessAndEq (N : Int) 4503599627370496 ≠ .lt
      unfold compareOfLessAndEq
      rw [if_neg (by omega)]
      split <;> simp
    cases h : compare (N : Int) 4503599627370496
    · exact absurd h this
    · rfl
    · rfl

/-- The other sign. -/
theorem neg_word (r : Nat) (h : r < 9223372036854775808) : Op.negFloat .f64 r = double.word true r := by
  show r ^^^ 9223372036854775808 = 9223372036854775808 + r
  have e : r ^^^ 2 ^ 63 = 2 ^ 63 + r := by
    have h' : r < 2 ^ 63 := h
    apply Nat.eq_of_testBit_eq
    intro i
    rw [Nat.testBit_xor, Nat.testBit_two_pow]
    by_cases hi : i = 63
    · subst hi
      rw [Nat.testBit_two_pow_add_eq, Nat.testBit_lt_two_pow h']
      simp
    · have hd : decide (63 = i) = false := decide_eq_false (by omega)
      rw [hd]
      by_cases hlt : i < 63
      · rw [Nat.testBit_two_pow_add_gt hlt, Bool.xor_false]
      · rw [Nat.testBit_lt_two_pow (x := r) (Nat.lt_of_lt_of_le h' (Nat.pow_le_pow_right (by omega) (by omega))), Nat.testBit_lt_two_pow (x := 2 ^ 63 + r) (Nat.lt_of_lt_of_le (show 2 ^ 63 + r < 2 ^ 64 by omega) (Nat.pow_le_pow_right (by omega) (by omega)))]
        rfl
  exact e
end Go.Proofs.YbulkcwpuDoor.Fp
