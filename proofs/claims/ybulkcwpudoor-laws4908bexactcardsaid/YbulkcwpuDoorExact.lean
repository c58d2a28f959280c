/-
  'LawS4908BExact' (function 3): the walk; the row; the tied card.
-/
import Derived.Test.YbulkcwpuDoorRows
import Derived.Test.YbulkcwpuDoorTie
import Derived.Test.YbulkcwpuDoorCards
import Derived.Test.YbulkcwpuDoorSig
import Derived.ProofKit
import Derived.OpenShut
import Derived.LaidMore
import Derived.Lib.LaidTab
import Derived.Stop.Joined
import Derived.SevenTiedAt
namespace Go.Proofs.YbulkcwpuDoor
open Go.ChangeShapes Go.WideShapes Go.ChangeAt Go.RowKit
set_option linter.unusedVariables false

/-- The splitting of whatever 'zzs4908bbuild' makes. -/
theorem split_built {v M : Nat} {p : Int} {neg : Bool} (hM : M < 9007199254740992) (p1 : -800 ≤ p) (p2 : p ≤ 800) (hb : Built v M p neg) :
    ∃ c d h l s, Ieee.double.mul 4728779608772575232 v = some c ∧ Ieee.double.sub c v = some d ∧ Ieee.double.sub c d = some h ∧ Ieee.double.sub v h = some l ∧ Ieee.double.add h l = some s ∧ Ieee.double.order s v = some .eq ∧ Fp.Few h ∧ Fp.Few l := by
  obtain ⟨hv, hh⟩ := hb
  by_cases h0 : M = 0
  · subst h0
    refine Fp.split_zero ?_ hh
    rw [hv]; cases neg <;> simp [Fp.sg]
  · have hl : M.log2 ≤ 52 := by have := (Nat.log2_lt (n := M) (k := 53) h0).2 (by omega); omega
    have b1 : 2 ^ M.log2 ≤ M := Nat.log2_self_le h0
    have b2 : M < 2 ^ (M.log2 + 1) := Nat.lt_log2_self
    refine Fp.split_full neg (M * 2 ^ (52 - M.log2)) ((p + 1074).toNat - (52 - M.log2)) ?_ ?_ (by omega) ?_ hh
    · have := Nat.mul_le_mul_right (2 ^ (52 - M.log2)) b1
      rw [← Nat.pow_add, show M.log2 + (52 - M.log2) = 52 by omega] at this
      exact this
    · have := Nat.mul_lt_mul_of_pos_right b2 (Nat.two_pow_pos (52 - M.log2))
      rw [← Nat.pow_add, show M.log2 + 1 + (52 - M.log2) = 53 by omega] at this
      exact this
    · rw [hv, Nat.mul_assoc, ← Nat.pow_add, show 52 - M.log2 + ((p + 1074).toNat - (52 - M.log2)) = (p + 1074).toNat by omega]

theorem word_bd {r x y : Nat} (h : Ieee.double.sub x y = some r) : r < 18446744073709551616 := Ieee.double.sub_lt h

set_option maxHeartbeats 800000 in
theorem walk (a0 : Int) (a1 : Int) (a2 : Bool) (w0 : (Lit.int .u64 a0).wf = true) (w1 : (Lit.int .i16 a1).wf = true) (w : World)
    (ht : ∀ i, i < 64 → w.cell? ⟨1, i, none⟩ = some (.int .u8 (tab.getD i 0))) :
    Calls Ybad.prog 3 #[.int .u64 a0, .int .i16 a1, .bool a2] w fun e w' => e = .returned (.bool true) ∧ w' = w := by
  have b0 := bounds_u64 w0
  have b1 := bounds_i16 w1
  go_enter Ybad.func3, Ybad.ntmps3
  go_wp2_with fail
  refine (build_any a0 a1 a2 b0.1 b0.2 b1.1 b1.2 _).mono ?_
  rintro e w' ⟨v, M, rfl, rfl, hM, hb⟩
  have hp := tmod_bd a1
  obtain ⟨c, d, h, l, s, e1, e2, e3, e4, e5, e6, f1, f2⟩ := split_built hM hp.1 hp.2 hb
  have HH : Hid (∀ w, Calls Ybad.prog 5 #[.float .f64 v] w fun e w' => e = .returned (.tuple #[.float .f64 h, .float .f64 l]) ∧ w' = w) := fun w => split_any v c d h l w e1 e2 e3 e4
  have o1 : FloatKind.f64.format.order s v = some .eq := e6
  have r5 := run_float_arith (P := Ybad.prog) w' .add 24 .f64 h l s e5
  have H1 : Hid (Calls Ybad.prog 6 #[.float .f64 h] w' fun e w'' => ∃ r : Int, e = .returned (.int .i64 r) ∧ r ≤ 26 ∧ w'' = w') := sig_any h (word_bd e3) f1 w' ht
  have H2 : Hid (Calls Ybad.prog 6 #[.float .f64 l] w' fun e w'' => ∃ r : Int, e = .returned (.int .i64 r) ∧ r ≤ 26 ∧ w'' = w') := sig_any l (word_bd e4) f2 w' ht
  clear e1 e2 e3 e4 e5 e6 f1 f2 hb hp ht
  go_wp2_with fail
  refine (HH.out _).mono ?_
  rintro e w2 ⟨rfl, rfl⟩
  go_wp2_with fail
  refine H1.out.mono ?_
  rintro e w3 ⟨r, rfl, hr, rfl⟩
  go_wp2_with fail
  refine H2.out.mono ?_
  rintro e w4 ⟨r2, rfl, hr2, rfl⟩
  go_wp2_with fail
  go_ret
  exact ⟨rfl, rfl⟩

theorem own : ownKnob Ybad.prog.godebug = none := by kernel_rfl

/-- The door's own heap meets the condition: three closed facts. -/
theorem door_met (os : Os) (args : Array Value) : laidMetH Ybad.prog Rows.lawS4908BExactRow.laid ((World.doorLaid Ybad.prog 14 os).forCall (fun _ _ => 0) ⟨#[], args, []⟩).memory :=
  laidMetH_of_parts3 (fuel := 8) (laidMet_of_run' 8 (by kernel_rfl) (by kernel_rfl)) (by kernel_rfl) (by kernel_rfl)

/-- What the condition gives the walk: the table's cells. -/
theorem of_laid {W : World} (h : laidMetH Ybad.prog Rows.lawS4908BExactRow.laid W) : ∀ i, i < 64 → W.cell? ⟨1, i, none⟩ = some (.int .u8 (tab.getD i 0)) := by
  rw [MakeChecks.laidMetH_plain _ _ _ (by kernel_rfl)] at h
  obtain ⟨ps, ⟨g', t', cs, fuel, p, q, hg', ht', hvar, hd, _, _⟩, _⟩ := h
  have hg : g' = 1 := (Option.some.inj (hg'.symm.trans (show _ = some 1 by kernel_rfl)))
  subst hg
  have htt : t' = 34 := (Option.some.inj (ht'.symm.trans (show _ = some 34 by kernel_rfl)))
  subst htt
  have hcs := Lib.cells_of_tab (k := .u8) (zs := tab) (n := 64) Ybad.underlying34 Ybad.underlying5 (by kernel_rfl) (by kernel_rfl) hd
  intro i hi
  have hi' : i < tab.length := hi
  have := World.var?_cell hg' hvar i
  rw [this]
  have e : cs = (tab.map fun z => Value.int .u8 z).toArray := by rw [← hcs]
  rw [e]
  simp [hi', List.getD]

set_option maxRecDepth 100000 in
theorem lifted (os : Os) (started : os.Started) (H : Type) (enc : TypeId × Value → H) :
    ReturnsInHanded {} Ybad.checked os 3 .any (fun w args => (Rows.lawS4908BExactSpec.pre enc Ybad.prog Ybad.f3 [] false w args ∧ laidMetH Ybad.prog Rows.lawS4908BExactRow.laid w) ∧ sizedMet enc Ybad.prog Ybad.f3 (OpenSpec.ofChange Rows.lawS4908BExactSpec) false w args)
      (Rows.lawS4908BExactSpec.post enc Ybad.prog Ybad.f3 false true false false) := by
  refine returnsInHanded_of_change_and (C := Ybad.checked) (X := fun w _ => laidMetH Ybad.prog Rows.lawS4908BExactRow.laid w) (fun _ _ _ hh h => h.of_heap hh) own started (by kernel_rfl) Ybad.func3
    (ChangeSpec.witness_shaped (enc := enc) (C := Ybad.checked) (os := os) (X := fun w _ => laidMetH Ybad.prog Rows.lawS4908BExactRow.laid w) false (World.doorLaid Ybad.prog 14 os) #[.int .u64 0, .int .i16 0, .bool false] 8 rfl (World.shaped_of_RefB (by kernel_rfl) (by kernel_rfl)) (by kernel_rfl) (by kernel_rfl) (by kernel_rfl) (door_met os _)) ?_
  intro W base args ds gs before hval0 hW _ _ hL _
  have hval : ∀ (j : Nat) t v, Ybad.f3.params[j]? = some t → args[j]? = some v → Value.okWide Ybad.prog W .any base t v := hval0
  have hW' := hW
  obtain ⟨p, q, hA0, hV, rfl, hfz, hnd⟩ := hW
  have hA : DataW.TrodAll enc Ybad.prog W 0 (fun _ => true) true Ybad.f3.params.toList args.toList ds p := hA0
  rw [Ybad.params3] at hA hval
  obtain ⟨v0, vs0, d0, ds0, p0, q0, hargs, rfl, rfl, h0, r0⟩ := trodAll_cons hA
  obtain ⟨v1, vs1, d1, ds1, p1, q1, rfl, rfl, rfl, h1, r1⟩ := trodAll_cons r0
  obtain ⟨v2, vs2, d2, ds2, p2, q2, rfl, rfl, rfl, h2, r2⟩ := trodAll_cons r1
  obtain ⟨rfl, rfl, rfl⟩ := trodAll_nil r2
  obtain rfl : args = #[v0, v1, v2] := by cases args; simp_all
  obtain ⟨rfl, rfl⟩ := trodVars_none hV
  obtain ⟨a0, rfl, rfl, rfl, w0⟩ := open_int Ybad.underlying22 (hval 0 22 v0 rfl rfl) h0
  obtain ⟨a1, rfl, rfl, rfl, w1⟩ := open_int Ybad.underlying23 (hval 1 23 v1 rfl rfl) h1
  obtain ⟨a2, rfl, rfl, rfl⟩ := open_bool Ybad.underlying4 (hval 2 4 v2 rfl rfl) h2
  clear hA0 hval0
  simp only [List.append_nil] at hW'
  refine (walk a0 a1 a2 w0 w1 W (of_laid hL)).mono fun e W' ⟨he, hw⟩ => ?_
  subst he; subst hw
  exact ⟨_, rfl, post_of_same (pa := []) (pv := []) hW' (fun _ _ _ => (trodAll_cons_mk (shut_bool Ybad.underlying4 _) trodAll_mk0)) (fun sp _ => (trodAll_cons_mk (shut_int Ybad.underlying22 w0) (trodAll_cons_mk (shut_int Ybad.underlying23 w1) (trodAll_cons_mk (shut_bool Ybad.underlying4 _) trodAll_mk0)))) (fun _ _ => rfl) rfl
    (World.keptBut_refl _ _) (fun _ => rfl) (ok_one (by kernel_rfl) rfl (okWide_bool_mk Ybad.underlying4 _))⟩

theorem row_holds : Rows.LawS4908BExactSaid :=
  OpenClaim.holds_of_wide 3 Ybad.f3 rfl rfl rfl rfl rfl rfl rfl ⟨rfl, rfl, rfl, rfl, rfl⟩ rfl rfl rfl rfl rfl (by kernel_rfl) Ybad.func3 (by kernel_rfl)
    (of_decide_eq_true (by kernel_rfl)) (by unfold Func.isWrapper; first | (rw [if_pos (by decide +kernel)]; kernel_rfl) | (rw [if_neg (by decide +kernel)]; exact ⟨rfl, rfl⟩))
    (fun os started H enc _ => lifted os started H enc)

/-- THE TIED CARD. -/
theorem card_proved : Rows.LawS4908BExactCardSaid :=
  Claim7.holds_tied_plain_at .later [] [.data] true (true, "a40c3bb568c7c6e0929bec6030a29413c7c776c64f933aedbbc3a34e71f65015") false
    row_holds (fun _ h => by cases h) (by kernel_rfl) (fun _ h => by cases h) lawS4908BExact_row_tie rfl ⟨rfl, rfl⟩ (by kernel_rfl) rfl
    (fun f fn hf hfn => by
      obtain rfl : f = 3 := Option.some.inj ((show Ybad.prog.funcNamed Rows.lawS4908BExactRow.func = some 3 by kernel_rfl).symm.trans hf) |>.symm
      obtain rfl : fn = Ybad.f3 := (Option.some.inj (Ybad.func3.symm.trans hfn)).symm
      exact ⟨by kernel_rfl, fun j t ht => by
        rw [Ybad.params3] at ht
        rcases j with _ | _ | _ | j
        · obtain rfl : t = 22 := by simpa using ht.symm
          exact (show Ybad.prog.wantsStandIn 22 = false by kernel_rfl)
        · obtain rfl : t = 23 := by simpa using ht.symm
          exact (show Ybad.prog.wantsStandIn 23 = false by kernel_rfl)
        · obtain rfl : t = 4 := by simpa using ht.symm
          exact (show Ybad.prog.wantsStandIn 4 = false by kernel_rfl)
        · simp at ht⟩)
    (by kernel_rfl)
#print axioms card_proved
end Go.Proofs.YbulkcwpuDoor
