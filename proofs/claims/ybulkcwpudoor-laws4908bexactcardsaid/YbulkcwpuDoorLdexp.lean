/-
  The walks of math.Ldexp and its callees at a normal number of middling size, of 'zzs4908bbuild' (function 4) and of 'split' (function 5).
-/
import Derived.Test.YbulkcwpuDoorRows
import Derived.Test.YbulkcwpuDoorFp2
import Derived.WalkKit
import Derived.WalkSpells
import Derived.WalkLawsBesides
import Derived.Laws.BitsAllLaws
namespace Go.Proofs.YbulkcwpuDoor
open Go.RowKit
set_option linter.unusedVariables false
theorem bits_run (x : Nat) (w : World) : (callFunc 8 #[.float .f64 x]).run Ybad.prog w = .ok (.value (.int .u64 x)) w := by
  rw [run_callFunc_extern Ybad.func8 (by kernel_rfl) (by kernel_rfl) (by kernel_rfl) (e := Extern.MathFloatBits.float64bits) (by kernel_rfl)]
  rfl
theorem frombits_run (x : Nat) (w : World) : (callFunc 18 #[.int .u64 x]).run Ybad.prog w = .ok (.value (.float .f64 x)) w := by
  rw [run_callFunc_extern Ybad.func18 (by kernel_rfl) (by kernel_rfl) (by kernel_rfl) (e := Extern.MathFloatBits.float64frombits) (by kernel_rfl)]
  rfl
theorem andNot_top (x : Nat) (hx : x < 9223372036854775808) : bits .andNot .u64 (x : Int) 9223372036854775808 = x := by
  have h := u64_andNot_nat x 9223372036854775808 (by omega) (by omega)
  have e : x &&& (18446744073709551615 - 9223372036854775808) = x := by
    rw [show 18446744073709551615 - 9223372036854775808 = 2 ^ 63 - 1 from rfl, Nat.and_two_pow_sub_one_eq_mod]
    exact Nat.mod_eq_of_lt hx
  rw [e] at h
  exact h
set_option maxHeartbeats 400000 in
theorem abs_any (x : Nat) (hx : x < 9223372036854775808) (w : World) : Calls Ybad.prog 19 #[.float .f64 x] w fun e w' => e = .returned (.float .f64 x) ∧ w' = w := by
  have h1 := bits_run x w
  have h2 := frombits_run x w
  have h3 := andNot_top x hx
  go_enter Ybad.func19, Ybad.ntmps19
  go_wp2_with fail
  go_ret
  exact ⟨rfl, rfl⟩
set_option maxHeartbeats 400000 in
theorem isinf_any (x : Nat) (hx : x < 9223372036854775808) (ho : (FloatKind.f64.format.order x 9218868437227405311 == some .gt) = false) (w : World) : Calls Ybad.prog 13 #[.float .f64 x, .int .i64 0] w fun e w' => e = .returned (.bool false) ∧ w' = w := by
  go_enter Ybad.func13, Ybad.ntmps13
  go_wp2_with (go_at_call 19; refine (abs_any x hx _).mono ?_; rintro e w' ⟨rfl, rfl⟩)
  go_ret
  exact ⟨rfl, rfl⟩
set_option maxHeartbeats 400000 in
theorem isnan_any (x : Nat) (ho : (FloatKind.f64.format.order x x != some .eq) = false) (w : World) : Calls Ybad.prog 14 #[.float .f64 x] w fun e w' => e = .returned (.bool false) ∧ w' = w := by
  go_enter Ybad.func14, Ybad.ntmps14
  go_wp2_with fail
  go_ret
  exact ⟨rfl, rfl⟩
set_option maxHeartbeats 400000 in
theorem normalize_any (x : Nat) (hx : x < 9223372036854775808) (ho : (FloatKind.f64.format.order x 4503599627370496 == some .lt) = false) (w : World) : Calls Ybad.prog 15 #[.float .f64 x] w fun e w' => e = .returned (.tuple #[.float .f64 x, .int .i64 0]) ∧ w' = w := by
  go_enter Ybad.func15, Ybad.ntmps15
  go_wp2_with (go_at_call 19; refine (abs_any x hx _).mono ?_; rintro e w' ⟨rfl, rfl⟩)
  go_ret2
  exact ⟨rfl, rfl⟩

theorem exp_bits (E F x : Nat) (hx : x = E * 4503599627370496 + F) (hF : F < 4503599627370496) (hE : E < 2048) : bits .and .i64 ((x : Int) / 4503599627370496) 2047 = E := by
  have e : ((x : Int) / 4503599627370496) = (E : Int) := by omega
  rw [e]
  have h2047 : (BitVec.ofInt 64 2047).toNat = 2 ^ 11 - 1 := by decide
  have key : (BitVec.ofInt 64 (E : Int) &&& BitVec.ofInt 64 2047).toNat = E := by
    rw [BitVec.toNat_and, ofInt_u64 E (by omega), h2047, Nat.and_two_pow_sub_one_eq_mod]
    omega
  show IntKind.i64.wrap ((BitVec.ofInt 64 (E : Int) &&& BitVec.ofInt 64 2047).toNat : Nat) = E
  rw [key, IntKind.wrap_i64]
  omega

theorem and_low (E F : Nat) (hF : F < 4503599627370496) (hE : E < 2048) : (E * 4503599627370496 + F) &&& 9227875636482146303 = F := by
  apply Nat.eq_of_testBit_eq
  intro i
  have hF' : F < 2 ^ 52 := hF
  have hm : (9227875636482146303 : Nat) = 2 ^ 63 * 1 + (2 ^ 52 - 1) := by decide
  have hx : E * 4503599627370496 + F = 2 ^ 52 * E + F := by rw [Nat.mul_comm]
  rw [Nat.testBit_and, hm, hx, Nat.testBit_two_pow_mul_add E hF', Nat.testBit_two_pow_mul_add 1 (show 2 ^ 52 - 1 < 2 ^ 63 by decide)]
  by_cases h1 : i < 52
  · rw [if_pos h1, if_pos (show i < 63 by omega), Nat.testBit_two_pow_sub_one]
    simp [h1]
  · rw [if_neg h1, Nat.testBit_lt_two_pow (x := F) (Nat.lt_of_lt_of_le hF' (Nat.pow_le_pow_right (by omega) (by omega)))]
    by_cases h2 : i < 63
    · rw [if_pos h2, Nat.testBit_two_pow_sub_one]
      simp [h1]
    · have : E.testBit (i - 52) = false := Nat.testBit_lt_two_pow (Nat.lt_of_lt_of_le (show E < 2 ^ 11 by omega) (Nat.pow_le_pow_right (by omega) (by omega)))
      rw [this]; rfl

theorem frac_bits (E F x : Nat) (hx : x = E * 4503599627370496 + F) (hF : F < 4503599627370496) (hE : E < 2048) : bits .andNot .u64 (x : Int) 9218868437227405312 = F := by
  have h := u64_andNot_nat x 9218868437227405312 (by omega) (by omega)
  rw [show 18446744073709551615 - 9218868437227405312 = 9227875636482146303 by decide, hx, and_low E F hF hE, ← hx] at h
  exact h

theorem join_bits (G F y : Nat) (hy : y = G * 4503599627370496 + F) (hF : F < 4503599627370496) (hG : G < 2048) (g : Int) (hg : g = G) : bits .or .u64 (F : Int) (g * 4503599627370496) = y := by
  have h := u64_or_nat F (G * 4503599627370496) (by omega) (by omega)
  have e : F ||| (G * 4503599627370496) = y := by
    rw [Nat.or_comm, Nat.mul_comm, show (4503599627370496 : Nat) = 2 ^ 52 from rfl, ← Nat.two_pow_add_eq_or_of_lt (show F < 2 ^ 52 from hF), hy, Nat.mul_comm]
  rw [e] at h
  rw [hg, ← h]
  congr 1

set_option maxHeartbeats 400000 in
theorem ldexp_zero (p : Int) (w : World) : Calls Ybad.prog 12 #[.float .f64 0, .int .i64 p] w fun e w' => e = .returned (.float .f64 0) ∧ w' = w := by
  have o1 : (FloatKind.f64.format.order 0 0 == some .eq) = true := by decide
  go_enter Ybad.func12, Ybad.ntmps12
  go_wp2_with fail
  go_ret
  exact ⟨rfl, rfl⟩

set_option maxHeartbeats 400000 in
theorem ldexp_any (E F G x y : Nat) (p : Int) (hx : x = E * 4503599627370496 + F) (hF : F < 4503599627370496) (h1 : 1023 ≤ E) (h2 : E ≤ 1075) (p1 : -800 ≤ p) (p2 : p ≤ 800)
    (hG : (G : Int) = E + p) (hy : y = G * 4503599627370496 + F) (w : World) : Calls Ybad.prog 12 #[.float .f64 x, .int .i64 p] w fun e w' => e = .returned (.float .f64 y) ∧ w' = w := by
  obtain ⟨o1, o2, o3, o4⟩ : (FloatKind.f64.format.order x 0 == some .eq) = false ∧ (FloatKind.f64.format.order x 9218868437227405311 == some .gt) = false ∧ (FloatKind.f64.format.order x x != some .eq) = false ∧ (FloatKind.f64.format.order x 4503599627370496 == some .lt) = false := by
    rw [hx]; exact Fp.orders E F hF h1 h2
  have hx63 : x < 9223372036854775808 := by omega
  have b1 := bits_run x w
  have b2 := frombits_run y w
  have b3 := exp_bits E F x hx hF (by omega)
  have b4 := frac_bits E F x hx hF (by omega)
  have b5 := join_bits G F y hy hF (by omega) (p + ((E : Int) - 1023) + 1023) (by omega)
  have b6 : floatBits .mul .f64 4607182418800017408 y = some y := by rw [hy]; exact Fp.one_mul G F hF (by omega) (by omega)
  have b7 := run_float_arith (P := Ybad.prog) w .mul 24 .f64 4607182418800017408 y y b6
  have e1 : (1023 : Int) ≤ (E : Int) := by omega
  have e2 : (E : Int) ≤ 1075 := by omega
  clear hx hG hy b6 hF h1 h2
  go_enter Ybad.func12, Ybad.ntmps12
  go_wp2_with (first | (go_at_call 13; refine (isinf_any x hx63 o2 _).mono ?_; rintro e w' ⟨rfl, rfl⟩) | (go_at_call 14; refine (isnan_any x o3 _).mono ?_; rintro e w' ⟨rfl, rfl⟩) | (go_at_call 15; refine (normalize_any x hx63 o4 _).mono ?_; rintro e w' ⟨rfl, rfl⟩))
  go_ret
  exact ⟨rfl, rfl⟩

set_option maxHeartbeats 400000 in
theorem Ldexp_zero (p : Int) (w : World) : Calls Ybad.prog 7 #[.float .f64 0, .int .i64 p] w fun e w' => e = .returned (.float .f64 0) ∧ w' = w := by
  go_enter Ybad.func7, Ybad.ntmps7
  go_wp2_with (go_at_call 12; refine (ldexp_zero p _).mono ?_; rintro e w' ⟨rfl, rfl⟩)
  go_ret
  exact ⟨rfl, rfl⟩

set_option maxHeartbeats 400000 in
theorem Ldexp_any (E F G x y : Nat) (p : Int) (hx : x = E * 4503599627370496 + F) (hF : F < 4503599627370496) (h1 : 1023 ≤ E) (h2 : E ≤ 1075) (p1 : -800 ≤ p) (p2 : p ≤ 800)
    (hG : (G : Int) = E + p) (hy : y = G * 4503599627370496 + F) (w : World) : Calls Ybad.prog 7 #[.float .f64 x, .int .i64 p] w fun e w' => e = .returned (.float .f64 y) ∧ w' = w := by
  have H := fun w => ldexp_any E F G x y p hx hF h1 h2 p1 p2 hG hy w
  have HH : Hid (∀ w, Calls Ybad.prog 12 #[.float .f64 x, .int .i64 p] w fun e w' => e = .returned (.float .f64 y) ∧ w' = w) := H
  clear H hx hF h1 h2 hG hy
  go_enter Ybad.func7, Ybad.ntmps7
  go_wp2_with (go_at_call 12; refine (HH.out _).mono ?_; rintro e w' ⟨rfl, rfl⟩)
  go_ret
  exact ⟨rfl, rfl⟩

/-- What 'zzs4908bbuild' makes: a double worth M units of 2^(1074 + p), with a sign. -/
def Built (v M : Nat) (p : Int) (neg : Bool) : Prop := Fp.val v = some (Fp.sg neg (M * 2 ^ (p + 1074).toNat)) ∧ Fp.High v


theorem mask (a : Int) (k : Nat) (hk : k ≤ 63) : ∃ M : Nat, bits .and .u64 (IntKind.u64.wrap a) ((2 ^ k - 1 : Nat) : Int) = M ∧ M < 2 ^ k := by
  have hw : 0 ≤ IntKind.u64.wrap a ∧ IntKind.u64.wrap a < 18446744073709551616 := by
    rw [IntKind.wrap_u64]; omega
  have hp : 2 ^ k ≤ 2 ^ 63 := Nat.pow_le_pow_right (by omega) hk
  have h0 := Nat.two_pow_pos k
  refine ⟨(IntKind.u64.wrap a).toNat % 2 ^ k, ?_, Nat.mod_lt _ h0⟩
  rw [u64_and _ _ hw.1 hw.2 (by omega) (by omega), Int.toNat_natCast, Nat.and_two_pow_sub_one_eq_mod]

theorem built_zero (p : Int) (neg : Bool) : Built (Ieee.double.word neg 0) 0 p neg := by
  refine ⟨?_, ?_⟩
  · rw [Fp.val_zero]; cases neg <;> simp [Fp.sg]
  · intro s m q h
    rw [Fp.read_zero] at h
    cases h; exact Or.inr rfl

theorem built_norm (M L F G : Nat) (p : Int) (neg : Bool) (hL : L ≤ 52) (hF : F < 4503599627370496) (hM : 4503599627370496 + F = M * 2 ^ (52 - L)) (p1 : -800 ≤ p) (p2 : p ≤ 800) (hG : (G : Int) = (1023 + L : Nat) + p) : Built (Ieee.double.word neg (G * 4503599627370496 + F)) M p neg := by
  refine ⟨?_, ?_⟩
  · rw [Fp.val_norm neg G F hF (by omega) (by omega), hM, Nat.mul_assoc, ← Nat.pow_add, show 52 - L + (G - 1) = (p + 1074).toNat by omega]
  · intro s m q h
    rw [Fp.read_norm neg G F hF (by omega) (by omega)] at h
    cases h; exact Or.inl (by omega)

theorem unary_neg_float (k : FloatKind) (b : Nat) : Op.unary .neg (.float k b) = pure (.float k (Op.negFloat k b)) := rfl
attribute [local go_sem] unary_neg_float

theorem tmod_bd (e : Int) : -800 ≤ e.tmod 800 ∧ e.tmod 800 ≤ 800 := by
  have h1 := Int.tmod_lt_of_pos e (show (0 : Int) < 800 by omega)
  have h2 : -800 < e.tmod 800 := by
    have := Int.tmod_lt_of_pos (-e) (show (0 : Int) < 800 by omega)
    rw [Int.neg_tmod] at this
    omega
  omega

set_option maxHeartbeats 400000 in
theorem build_any (mant exp : Int) (neg : Bool) (m1 : 0 ≤ mant) (m2 : mant ≤ 18446744073709551615) (e1 : -32768 ≤ exp) (e2 : exp ≤ 32767) (w : World) :
    Calls Ybad.prog 4 #[.int .u64 mant, .int .i16 exp, .bool neg, .int .u64 53] w fun e w' => ∃ v M : Nat, e = .returned (.float .f64 v) ∧ w' = w ∧ M < 9007199254740992 ∧ Built v M (exp.tmod 800) neg := by
  obtain ⟨M, hM, hM2⟩ := mask (mant * 11400714819323198485) 53 (by omega)
  have hM' : bits .and .u64 (IntKind.u64.wrap (mant * 11400714819323198485)) 9007199254740991 = (M : Int) := hM
  have hM3 : M < 9007199254740992 := hM2
  have hb := tmod_bd exp
  obtain ⟨p, hp⟩ : ∃ p, exp.tmod 800 = p := ⟨_, rfl⟩
  rw [hp] at hb ⊢
  clear hM hM2
  by_cases h0 : M = 0
  · subst h0
    have hfr : floatOfInt .f64 ((0 : Nat) : Int) = 0 := Fp.ofInt_zero
    have HB := fun neg => built_zero p neg
    have HN := Fp.neg_word 0 (by omega)
    have H1 : Hid (∀ neg, Built (Ieee.double.word neg 0) 0 p neg) := HB
    have H2 : Hid (Op.negFloat .f64 0 = Ieee.double.word true 0) := HN
    clear HB HN hM3
    cases neg
    all_goals
      go_enter Ybad.func4, Ybad.ntmps4
      go_wp2_with fail
      rw [Fp.ofInt_zero]
      refine (Ldexp_zero p _).mono ?_
      rintro e w' ⟨rfl, rfl⟩
      go_wp2_with fail
      go_ret
      first
        | exact ⟨_, 0, rfl, rfl, by omega, H1.out false⟩
        | (refine ⟨_, 0, rfl, rfl, by omega, ?_⟩; rw [H2.out]; exact H1.out true)
  · obtain ⟨L, F, hL, hF, hMF, hfr⟩ := Fp.ofInt_norm M (by omega) (by omega)
    obtain ⟨G, hG⟩ : ∃ G : Nat, (G : Int) = (1023 + L : Nat) + p := ⟨((1023 + L : Nat) + p).toNat, by omega⟩
    have H1 : Hid (∀ neg, Built (Ieee.double.word neg (G * 4503599627370496 + F)) M p neg) := fun neg => built_norm M L F G p neg hL hF hMF hb.1 hb.2 hG
    have H2 : Hid (Op.negFloat .f64 (G * 4503599627370496 + F) = Ieee.double.word true (G * 4503599627370496 + F)) := Fp.neg_word _ (by omega)
    have H3 : Hid (∀ w, Calls Ybad.prog 7 #[.float .f64 (floatOfInt .f64 (M : Int)), .int .i64 p] w fun e w' => e = .returned (.float .f64 (G * 4503599627370496 + F)) ∧ w' = w) := fun w => Ldexp_any (1023 + L) F G _ _ p hfr hF (by omega) (by omega) hb.1 hb.2 hG rfl w
    clear hfr hMF hG hF hL h0
    cases neg
    all_goals
      go_enter Ybad.func4, Ybad.ntmps4
      go_wp2_with fail
      refine (H3.out _).mono ?_
      rintro e w' ⟨rfl, rfl⟩
      go_wp2_with fail
      go_ret
      first
        | exact ⟨_, M, rfl, rfl, hM3, H1.out false⟩
        | (refine ⟨_, M, rfl, rfl, hM3, ?_⟩; rw [H2.out]; exact H1.out true)

set_option maxHeartbeats 400000 in
theorem split_any (v c d h l : Nat) (w : World) (h1 : Ieee.double.mul 4728779608772575232 v = some c) (h2 : Ieee.double.sub c v = some d) (h3 : Ieee.double.sub c d = some h) (h4 : Ieee.double.sub v h = some l) :
    Calls Ybad.prog 5 #[.float .f64 v] w fun e w' => e = .returned (.tuple #[.float .f64 h, .float .f64 l]) ∧ w' = w := by
  have r1 := run_float_arith (P := Ybad.prog) w .mul 24 .f64 4728779608772575232 v c h1
  have r2 := run_float_arith (P := Ybad.prog) w .sub 24 .f64 c v d h2
  have r3 := run_float_arith (P := Ybad.prog) w .sub 24 .f64 c d h h3
  have r4 := run_float_arith (P := Ybad.prog) w .sub 24 .f64 v h l h4
  clear h1 h2 h3 h4
  go_enter Ybad.func5, Ybad.ntmps5
  go_wp2_with fail
  go_ret2
  exact ⟨rfl, rfl⟩
end Go.Proofs.YbulkcwpuDoor
