/-
  Doubles as whole numbers of units of 2^-1074: what the sum, the difference, the product and the comparison of two finite doubles are, in units. No Go text in sight.
-/
import Derived.Laws.FloatArith
namespace Go.Proofs.YbulkcwpuDoor.Fp
open Ieee

/-- A magnitude with its sign. -/
def sg (s : Bool) (n : Nat) : Int := if s then -(n : Int) else n

/-- What a finite double is worth, in units of 2^-1074. -/
def val (w : Nat) : Option Int := match double.read w with
  | .number s m p => some (sg s (m * 2 ^ (p + 1074).toNat))
  | _ => none

/-- A magnitude in units, rounded to 53 digits, to the nearest, between two to the even one. -/
def rn (u : Nat) : Nat := Toward.even.cut false u (u.log2 - 52) * 2 ^ (u.log2 - 52)
def rz (z : Int) : Int := sg (decide (z < 0)) (rn z.natAbs)

theorem sg_abs (z : Int) : sg (decide (z < 0)) z.natAbs = z := by
  unfold sg
  by_cases h : z < 0
  · simp [h]; omega
  · simp [h]; omega

theorem cut_eq (neg : Bool) (n drop : Nat) (h : drop ≤ n.log2 + 2) : Toward.even.cut neg n drop = n / 2 ^ drop + if (2 ^ drop < 2 * (n % 2 ^ drop) ∨ (2 ^ drop = 2 * (n % 2 ^ drop) ∧ n / 2 ^ drop % 2 = 1)) then 1 else 0 := by
  unfold Toward.cut
  simp only [Nat.min_eq_left h, Nat.shiftLeft_eq, Nat.one_mul]
  congr 1
  by_cases h1 : 2 ^ drop < 2 * (n % 2 ^ drop)
  · simp [h1]
  · by_cases h2 : 2 ^ drop = 2 * (n % 2 ^ drop)
    · by_cases h3 : n / 2 ^ drop % 2 = 1
      · rw [if_pos (Or.inr ⟨h2, h3⟩)]
        simp [h3, ← h2]
      · rw [if_neg (by simp [h1, h3])]
        simp [h3, h1]
    · rw [if_neg (by simp [h1, h2])]
      have : ((2 ^ drop == 2 * (n % 2 ^ drop)) = false) := by simpa using h2
      simp [h1, this]

/-- Nothing is dropped where all that would be dropped is nought. -/
theorem cut_whole (neg : Bool) (q d : Nat) : Toward.even.cut neg (q * 2 ^ d) d = q := by
  by_cases hq : q = 0
  · subst hq
    unfold Toward.cut
    simp
  · have hl : d ≤ (q * 2 ^ d).log2 + 2 := by
      have : d ≤ (q * 2 ^ d).log2 := by
        rw [Nat.le_log2 (by have := Nat.two_pow_pos d; exact Nat.mul_ne_zero hq (by omega))]
        exact Nat.le_mul_of_pos_left _ (by omega)
      omega
    rw [cut_eq _ _ _ hl, Nat.mul_mod_left, Nat.mul_div_cancel _ (Nat.two_pow_pos d), if_neg]
    · rfl
    · have := Nat.two_pow_pos d; omega

theorem log2_mul (m d : Nat) (hm : m ≠ 0) : (m * 2 ^ d).log2 = m.log2 + d := by
  have hp := Nat.two_pow_pos d
  have hne : m * 2 ^ d ≠ 0 := Nat.mul_ne_zero hm (by omega)
  have h1 : 2 ^ m.log2 ≤ m := Nat.log2_self_le hm
  have h2 : m < 2 ^ (m.log2 + 1) := Nat.lt_log2_self
  rw [Nat.log2_eq_iff hne]
  constructor
  · rw [Nat.pow_add]; exact Nat.mul_le_mul_right _ h1
  · rw [show m.log2 + d + 1 = (m.log2 + 1) + d by omega, Nat.pow_add]; exact Nat.mul_lt_mul_of_pos_right h2 hp

/-- Scaling what is cut, and by as much what is dropped. -/
theorem cut_scale (neg : Bool) (m d P : Nat) (hm : m ≠ 0) (hd : d ≤ m.log2 + 2) : Toward.even.cut neg (m * 2 ^ P) (d + P) = Toward.even.cut neg m d := by
  have hP := Nat.two_pow_pos P
  rw [cut_eq _ _ _ (by rw [log2_mul m P hm]; omega), cut_eq _ _ _ hd]
  have e1 : m * 2 ^ P / 2 ^ (d + P) = m / 2 ^ d := by rw [Nat.pow_add, Nat.mul_div_mul_right _ _ hP]
  have e2 : m * 2 ^ P % 2 ^ (d + P) = m % 2 ^ d * 2 ^ P := by rw [Nat.pow_add, Nat.mul_mod_mul_right]
  rw [e1, e2, Nat.pow_add]
  congr 1
  have k1 : (2 ^ d * 2 ^ P < 2 * (m % 2 ^ d * 2 ^ P)) ↔ 2 ^ d < 2 * (m % 2 ^ d) := by
    rw [← Nat.mul_assoc]; exact Nat.mul_lt_mul_right hP
  have k2 : (2 ^ d * 2 ^ P = 2 * (m % 2 ^ d * 2 ^ P)) ↔ 2 ^ d = 2 * (m % 2 ^ d) := by
    rw [← Nat.mul_assoc]; exact Nat.mul_right_cancel_iff hP
  simp only [k1, k2]

theorem nearest_eq (neg : Bool) (mag : Nat) (place : Int) (hp : -1074 ≤ place) (u : Nat) (hu : u = mag * 2 ^ (place + 1074).toNat) :
    double.nearest neg mag place = double.word neg (min ((u.log2 - 52) * 4503599627370496 + Toward.even.cut neg u (u.log2 - 52)) double.infRung) := by
  obtain ⟨P, hP⟩ : ∃ P : Nat, place + 1074 = P := ⟨(place + 1074).toNat, by omega⟩
  have hpl : place = P - 1074 := by omega
  rw [hP, Int.toNat_natCast] at hu
  by_cases hm : mag = 0
  · subst hm; subst hu
    simp [Format.nearest, Toward.cut, show Nat.log2 0 = 0 from rfl]
  · have hl : u.log2 = mag.log2 + P := by rw [hu]; exact log2_mul mag P hm
    unfold Format.nearest
    rw [if_neg hm]
    have hlast : max (place + mag.log2 - double.fractionBits) double.leastPlace = ((u.log2 - 52 : Nat) : Int) - 1074 := by
      have e1 : ((double.fractionBits : Nat) : Int) = 52 := rfl
      have e2 : double.leastPlace = -1074 := rfl
      rw [e1, e2]; omega
    have e2 : double.leastPlace = -1074 := rfl
    have e3 : double.binade = 4503599627370496 := rfl
    simp only [hlast]
    simp only [e2, e3]
    have d1 : (place - (((u.log2 - 52 : Nat) : Int) - 1074)).toNat = P - (u.log2 - 52) := by omega
    have d2 : ((((u.log2 - 52 : Nat) : Int) - 1074) - place).toNat = (u.log2 - 52) - P := by omega
    have d3 : ((((u.log2 - 52 : Nat) : Int) - 1074) - -1074).toNat = u.log2 - 52 := by omega
    rw [d1, d2, d3, Nat.shiftLeft_eq]
    congr 3
    by_cases hk : u.log2 - 52 ≤ P
    · have z1 : (u.log2 - 52) - P = 0 := by omega
      rw [z1]
      have c1 := cut_whole neg (mag * 2 ^ (P - (u.log2 - 52))) 0
      have c2 := cut_whole neg (mag * 2 ^ (P - (u.log2 - 52))) (u.log2 - 52)
      rw [Nat.pow_zero, Nat.mul_one] at c1
      rw [c1]
      rw [Nat.mul_assoc, ← Nat.pow_add, show P - (u.log2 - 52) + (u.log2 - 52) = P by omega, ← hu] at c2
      exact c2.symm
    · have z1 : P - (u.log2 - 52) = 0 := by omega
      rw [z1, Nat.pow_zero, Nat.mul_one]
      have c := cut_scale neg mag ((u.log2 - 52) - P) P hm (by omega)
      rw [show (u.log2 - 52) - P + P = u.log2 - 52 by omega, ← hu] at c
      exact c.symm

theorem cut_neg (neg : Bool) (n d : Nat) : Toward.even.cut neg n d = Toward.even.cut false n d := rfl

/-- What is kept has 53 digits, or is the whole number. -/
theorem kept_bd (u : Nat) : (u.log2 - 52 = 0 ∧ Toward.even.cut false u (u.log2 - 52) = u ∧ u < 9007199254740992) ∨ (4503599627370496 ≤ Toward.even.cut false u (u.log2 - 52) ∧ Toward.even.cut false u (u.log2 - 52) ≤ 9007199254740992) := by
  by_cases h : u.log2 - 52 = 0
  · left
    have c := cut_whole false u 0
    rw [Nat.pow_zero, Nat.mul_one] at c
    rw [h]
    refine ⟨rfl, c, ?_⟩
    by_cases h0 : u = 0
    · omega
    · have : u < 2 ^ 53 := (Nat.log2_lt h0).1 (by omega)
      omega
  · right
    have h0 : u ≠ 0 := by intro e; subst e; simp [show Nat.log2 0 = 0 from rfl] at h
    obtain ⟨k, hk⟩ : ∃ k, u.log2 = 52 + k := ⟨u.log2 - 52, by omega⟩
    rw [hk, show 52 + k - 52 = k by omega, cut_eq _ _ _ (by omega)]
    have h1 : 2 ^ (52 + k) ≤ u := by rw [← hk]; exact Nat.log2_self_le h0
    have h2 : u < 2 ^ (52 + k + 1) := by rw [← hk]; exact Nat.lt_log2_self
    have hk0 := Nat.two_pow_pos k
    have g1 : 2 ^ 52 ≤ u / 2 ^ k := by rw [Nat.le_div_iff_mul_le hk0, ← Nat.pow_add]; exact h1
    have g2 : u / 2 ^ k < 2 ^ 53 := by rw [Nat.div_lt_iff_lt_mul hk0, ← Nat.pow_add]; rwa [show 53 + k = 52 + k + 1 by omega]
    split <;> omega

theorem read_word (neg : Bool) (rung : Nat) (h : rung < 9223372036854775808) : double.read (double.word neg rung) =
    if rung < 4503599627370496 then .number neg rung (-1074)
    else if rung < 9218868437227405312 then .number neg (4503599627370496 + rung % 4503599627370496) (-1074 + (rung / 4503599627370496 - 1 : Nat))
    else if rung = 9218868437227405312 then .infinity neg
    else .nan neg (rung - 9218868437227405312) := by
  have e1 : double.signWeight = 9223372036854775808 := rfl
  have e2 : double.binade = 4503599627370496 := rfl
  have e3 : double.infRung = 9218868437227405312 := rfl
  have e4 : double.leastPlace = -1074 := rfl
  have n1 : (double.word neg rung / 9223372036854775808 % 2 == 1) = neg := by
    unfold Format.word
    rw [e1]
    cases neg
    · simp; omega
    · simp; omega
  have n2 : double.word neg rung % 9223372036854775808 = rung := by
    unfold Format.word
    rw [e1]
    cases neg
    · simp; omega
    · simp; omega
  unfold Format.read
  simp only [e1, e2, e3, e4, n1, n2]

theorem val_word (neg : Bool) (k kept : Nat) (hk : k ≤ 2000) (h : (k = 0 ∧ kept < 9007199254740992) ∨ (4503599627370496 ≤ kept ∧ kept ≤ 9007199254740992)) :
    val (double.word neg (k * 4503599627370496 + kept)) = some (sg neg (kept * 2 ^ k)) := by
  unfold val
  rw [read_word _ _ (by omega)]
  by_cases c1 : k * 4503599627370496 + kept < 4503599627370496
  · rw [if_pos c1]
    have hk0 : k = 0 := by omega
    subst hk0
    simp
  · rw [if_neg c1, if_pos (by omega)]
    by_cases c2 : kept < 9007199254740992
    · have f1 : (k * 4503599627370496 + kept) % 4503599627370496 = kept - 4503599627370496 := by omega
      have f2 : (k * 4503599627370496 + kept) / 4503599627370496 = k + 1 := by omega
      rw [f1, f2]
      have f3 : (-1074 + ((k + 1 - 1 : Nat) : Int) + 1074).toNat = k := by omega
      simp only [f3]
      rw [show 4503599627370496 + (kept - 4503599627370496) = kept by omega]
    · have hkk : kept = 9007199254740992 := by omega
      subst hkk
      have f1 : (k * 4503599627370496 + 9007199254740992) % 4503599627370496 = 0 := by omega
      have f2 : (k * 4503599627370496 + 9007199254740992) / 4503599627370496 = k + 2 := by omega
      rw [f1, f2]
      have f3 : (-1074 + ((k + 2 - 1 : Nat) : Int) + 1074).toNat = k + 1 := by omega
      simp only [f3]
      have e : (4503599627370496 + 0) * 2 ^ (k + 1) = 9007199254740992 * 2 ^ k := by
        rw [Nat.pow_succ]
        generalize 2 ^ k = X
        omega
      rw [e]

/-- THE NEAREST WORD, IN UNITS. -/
theorem val_nearest (neg : Bool) (mag : Nat) (place : Int) (hp : -1074 ≤ place) (hl : (mag * 2 ^ (place + 1074).toNat).log2 ≤ 2000) :
    val (double.nearest neg mag place) = some (sg neg (rn (mag * 2 ^ (place + 1074).toNat))) := by
  rw [nearest_eq neg mag place hp _ rfl, cut_neg]
  generalize hu : mag * 2 ^ (place + 1074).toNat = u at *
  have hb := kept_bd u
  have e3 : double.infRung = 9218868437227405312 := rfl
  rw [e3, Nat.min_eq_left (by omega)]
  exact val_word neg _ _ (by omega) (by omega)

theorem place_ge (w : Nat) {s : Bool} {m : Nat} {p : Int} (h : double.read w = .number s m p) : -1074 ≤ p := by
  unfold Format.read at h
  have e4 : double.leastPlace = -1074 := rfl
  simp only [e4] at h
  split at h
  · cases h; omega
  · split at h
    · cases h; omega
    · split at h <;> cases h

theorem val_read {w : Nat} {a : Int} (h : val w = some a) : ∃ s m p, double.read w = .number s m p ∧ -1074 ≤ p ∧ a = sg s (m * 2 ^ (p + 1074).toNat) := by
  unfold val at h
  split at h
  · rename_i s m p hr
    cases h
    exact ⟨s, m, p, hr, place_ge w hr, rfl⟩
  · cases h

theorem signed_eq (s : Bool) (m up : Nat) : signed s m up = sg s (m * 2 ^ up) := by
  unfold signed sg
  rw [Nat.shiftLeft_eq]

theorem sg_mul (s : Bool) (m d : Nat) : sg s (m * d) = sg s m * d := by
  unfold sg
  cases s <;> simp [Int.neg_mul]

theorem rn_zero : rn 0 = 0 := by
  unfold rn
  simp [show Nat.log2 0 = 0 from rfl, Toward.cut]

/-- The sum of two numbers with their signs, each at its place. -/
theorem sum_core (s t : Bool) (m n : Nat) (i j : Int) (hi : -1074 ≤ i) (hj : -1074 ≤ j) (a b : Int) (ha : a = sg s (m * 2 ^ (i + 1074).toNat)) (hb : b = sg t (n * 2 ^ (j + 1074).toNat)) (hl : (a + b).natAbs.log2 ≤ 2000) :
    ∃ r, ((Datum.number s m i).sum (Datum.number t n j)).map double.write = some r ∧ val r = some (rz (a + b)) := by
  generalize hB : min i j = base
  have hbase : -1074 ≤ base := by omega
  have k1 : (i + 1074).toNat = (i - base).toNat + (base + 1074).toNat := by omega
  have k2 : (j + 1074).toNat = (j - base).toNat + (base + 1074).toNat := by omega
  generalize ht : signed s m (i - base).toNat + signed t n (j - base).toNat = total
  have hab : a + b = total * ((2 ^ (base + 1074).toNat : Nat) : Int) := by
    rw [ha, hb, ← ht, signed_eq, signed_eq, k1, k2, Nat.pow_add, Nat.pow_add, ← Nat.mul_assoc, ← Nat.mul_assoc, sg_mul s (m * _), sg_mul t (n * _), Int.add_mul]
  have hpos : (0 : Int) < ((2 ^ (base + 1074).toNat : Nat) : Int) := by have := Nat.two_pow_pos (base + 1074).toNat; omega
  have habs : (a + b).natAbs = total.natAbs * 2 ^ (base + 1074).toNat := by rw [hab, Int.natAbs_mul, Int.natAbs_natCast]
  have hsum : (Datum.number s m i).sum (Datum.number t n j) = some (Datum.number (if total = 0 then s && t else decide (total < 0)) total.natAbs base) := by
    simp only [Datum.sum, hB, ht]
  rw [hsum]
  refine ⟨_, rfl, ?_⟩
  show val (double.nearest _ total.natAbs base) = _
  rw [val_nearest _ _ _ hbase (by rw [← habs]; exact hl), ← habs]
  by_cases h0 : total = 0
  · have : a + b = 0 := by rw [hab, h0]; simp
    rw [this]
    simp [rz, rn_zero, sg]
  · rw [if_neg h0]
    have : decide (total < 0) = decide (a + b < 0) := by
      rw [hab]
      generalize ((2 ^ (base + 1074).toNat : Nat) : Int) = X at hpos
      by_cases hn : total < 0
      · have := Int.mul_neg_of_neg_of_pos hn hpos
        simp [hn, this]
      · have := Int.mul_nonneg (show 0 ≤ total by omega) (Int.le_of_lt hpos)
        have h' : ¬ total * X < 0 := by omega
        simp [hn, h']
    rw [this]
    rfl

theorem add_val {x y : Nat} {a b : Int} (hx : val x = some a) (hy : val y = some b) (hl : (a + b).natAbs.log2 ≤ 2000) : ∃ r, double.add x y = some r ∧ val r = some (rz (a + b)) := by
  obtain ⟨s, m, i, h1, h2, h3⟩ := val_read hx
  obtain ⟨t, n, j, g1, g2, g3⟩ := val_read hy
  unfold Format.add
  rw [h1, g1]
  exact sum_core s t m n i j h2 g2 a b h3 g3 hl

theorem sg_not (t : Bool) (n : Nat) : sg (!t) n = - sg t n := by cases t <;> simp [sg]

theorem sub_val {x y : Nat} {a b : Int} (hx : val x = some a) (hy : val y = some b) (hl : (a - b).natAbs.log2 ≤ 2000) : ∃ r, double.sub x y = some r ∧ val r = some (rz (a - b)) := by
  obtain ⟨s, m, i, h1, h2, h3⟩ := val_read hx
  obtain ⟨t, n, j, g1, g2, g3⟩ := val_read hy
  unfold Format.sub
  rw [h1, g1]
  have e : a - b = a + -b := by omega
  rw [e] at hl ⊢
  exact sum_core s (!t) m n i j h2 g2 a (-b) h3 (by rw [g3, sg_not]) hl

theorem compare_mul (a b p : Int) (hp : 0 < p) : compare (a * p) (b * p) = compare a b := by
  show compareOfLessAndEq (a * p) (b * p) = compareOfLessAndEq a b
  unfold compareOfLessAndEq
  have e1 : a * p < b * p ↔ a < b := Int.mul_lt_mul_right hp
  have e2 : a * p = b * p ↔ a = b := Int.mul_eq_mul_right_iff (by omega)
  simp only [e1, e2]

theorem order_val {x y : Nat} {a b : Int} (hx : val x = some a) (hy : val y = some b) : double.order x y = some (compare a b) := by
  obtain ⟨s, m, i, h1, h2, h3⟩ := val_read hx
  obtain ⟨t, n, j, g1, g2, g3⟩ := val_read hy
  unfold Format.order
  rw [h1, g1]
  generalize hB : min i j = base
  have hbase : -1074 ≤ base := by omega
  have k1 : (i + 1074).toNat = (i - base).toNat + (base + 1074).toNat := by omega
  have k2 : (j + 1074).toNat = (j - base).toNat + (base + 1074).toNat := by omega
  have hpos : (0 : Int) < ((2 ^ (base + 1074).toNat : Nat) : Int) := by have := Nat.two_pow_pos (base + 1074).toNat; omega
  simp only [Datum.order, hB]
  rw [h3, g3, k1, k2, Nat.pow_add, Nat.pow_add, ← Nat.mul_assoc, ← Nat.mul_assoc, sg_mul s (m * _), sg_mul t (n * _), compare_mul _ _ _ hpos, signed_eq, signed_eq]

/-- 2^27 + 1 times a number. -/
theorem mul_val {x : Nat} {a : Int} (hx : val x = some a) {s : Bool} {m : Nat} {p : Int} (hr : double.read x = .number s m p) (hp : -1049 ≤ p) (hl : (134217729 * a).natAbs.log2 ≤ 2000) : ∃ r, double.mul 4728779608772575232 x = some r ∧ val r = some (rz (134217729 * a)) := by
  have hc : double.read 4728779608772575232 = .number false 4503599660924928 (-25) := by
    rw [show (4728779608772575232 : Nat) = double.word false 4728779608772575232 from rfl, read_word _ _ (by omega)]
    rfl
  unfold Format.mul
  rw [hc, hr]
  obtain ⟨s', m', p', h1, h2, h3⟩ := val_read hx
  rw [hr] at h1
  cases h1
  refine ⟨_, rfl, ?_⟩
  show val (double.nearest (false ^^ s) (4503599660924928 * m) (-25 + p)) = _
  have e : 4503599660924928 * m * 2 ^ (-25 + p + 1074).toNat = 134217729 * (m * 2 ^ (p + 1074).toNat) := by
    rw [show (p + 1074).toNat = (-25 + p + 1074).toNat + 25 by omega, Nat.pow_add]
    generalize 2 ^ (-25 + p + 1074).toNat = X
    rw [show (2 : Nat) ^ 25 = 33554432 from rfl, ← Nat.mul_assoc, ← Nat.mul_assoc, Nat.mul_comm (134217729 * m * X), ← Nat.mul_assoc, ← Nat.mul_assoc]
  have ha : (134217729 * a).natAbs = 134217729 * (m * 2 ^ (p + 1074).toNat) := by
    rw [h3, Int.natAbs_mul]
    generalize m * 2 ^ (p + 1074).toNat = N
    unfold sg
    cases s <;> simp
  rw [val_nearest _ _ _ (by omega) (by rw [e, ← ha]; exact hl), e, ← ha]
  by_cases h0 : m * 2 ^ (p + 1074).toNat = 0
  · rw [h0] at h3
    have : a = 0 := by rw [h3]; cases s <;> simp [sg]
    rw [this]
    cases s <;> simp [rz, rn_zero, sg]
  · have hsg : (false ^^ s) = decide (134217729 * a < 0) := by
      rw [h3]
      generalize m * 2 ^ (p + 1074).toNat = N at h0
      unfold sg
      cases s
      · simp; omega
      · simp; omega
    rw [hsg]
    rfl

theorem rn_exact (q j : Nat) (hq : q < 9007199254740992) : rn (q * 2 ^ j) = q * 2 ^ j := by
  by_cases h0 : q = 0
  · subst h0; simp [rn_zero]
  · have hl : q.log2 < 53 := (Nat.log2_lt h0).2 (by omega)
    have hlog := log2_mul q j h0
    unfold rn
    rw [hlog]
    have hk : q.log2 + j - 52 ≤ j := by omega
    have c := cut_whole false (q * 2 ^ (j - (q.log2 + j - 52))) (q.log2 + j - 52)
    rw [Nat.mul_assoc, ← Nat.pow_add, show j - (q.log2 + j - 52) + (q.log2 + j - 52) = j by omega] at c
    rw [c, Nat.mul_assoc, ← Nat.pow_add, show j - (q.log2 + j - 52) + (q.log2 + j - 52) = j by omega]

theorem rz_exact (z : Int) (j : Nat) (hz : z.natAbs < 9007199254740992) : rz (z * (2 ^ j : Nat)) = z * (2 ^ j : Nat) := by
  have e : (z * ((2 ^ j : Nat) : Int)).natAbs = z.natAbs * 2 ^ j := by rw [Int.natAbs_mul, Int.natAbs_natCast]
  unfold rz
  rw [e, rn_exact _ _ hz, ← e, sg_abs]
end Go.Proofs.YbulkcwpuDoor.Fp
