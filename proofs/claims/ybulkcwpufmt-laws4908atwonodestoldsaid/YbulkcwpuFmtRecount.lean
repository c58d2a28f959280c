import Derived.Test.YbulkcwpuFmtTally
import Derived.Test.YbulkcwpuFmtConfirm
namespace Go.Proofs.YbulkcwpuFmt
open Go.RowKit Go.Lib
set_option linter.unusedVariables false

theorem quiet_in {P : Program} {f : FuncId} {args : Array Value} {w : World} {a n : Nat} {v : Value}
    (h : Calls P f args (w.drewN (a + n)) fun e w' => e = .returned v ∧ ∃ m, w' = (w.drewN (a + n)).drewN m) : Calls P f args (w.drewN (a + n)) fun e w'' => e = .returned v ∧ ∃ m, w'' = w.drewN (a + m) :=
  h.mono fun _ _ ⟨he, m, hm⟩ => ⟨he, n + m, by rw [hm, World.drewN_drewN, Nat.add_assoc]⟩

def vouchSt (st : St) (j : Nat) (r : Int) : St := if st.vch j < r then { st with vch := up st.vch j r } else st

set_option maxRecDepth 20000 in
set_option maxHeartbeats 1600000 in
theorem recount_any (d : Nd) (base : Nat) (ha : Apart d base) (j : Nat) (st R : St) (r1 r2 : Int) (w : World) (hj : j < d.n) (hM : Mem d w st)
    (hh1 : ∀ q, Calls Ybaf.prog 29 #[.pointer (some ⟨d.A, j * 2, none⟩), .int .i64 ((d.f : Int) + 1), .int .i64 (st.vch j)] (w.drewN q) fun e w' => e = .returned (.int .i64 r1) ∧ ∃ m, w' = (w.drewN q).drewN m)
    (hh2 : ∀ w' q, Fr (Own d) w w' → Mem d w' (vouchSt st j r1) → Calls Ybaf.prog 29 #[.pointer (some ⟨d.A, j * 2, none⟩), .int .i64 ((d.n : Int) - d.f), .int .i64 ((vouchSt st j r1).vch j)] (w'.drewN q) fun e w'' => e = .returned (.int .i64 r2) ∧ ∃ m, w'' = (w'.drewN q).drewN m)
    (hadv : st.ctrs j < r2 → ∀ w', Fr (Own d) w w' → Mem d w' (vouchSt st j r1) → Calls Ybaf.prog 30 #[.pointer (some ⟨d.C, 0, none⟩), .int .i64 j, .int .i64 r2] w' fun e w'' => e = .returned (.tuple #[]) ∧ Fr (Own d) w' w'' ∧ Mem d w'' R) :
    Calls Ybaf.prog 19 #[.pointer (some ⟨d.C, 0, none⟩), .int .i64 j] w fun e w' => e = .returned (.tuple #[]) ∧ Fr (Own d) w w' ∧ Mem d w' (if st.ctrs j < r2 then R else vouchSt st j r1) := by
  have c10 := hM.C.cell 10 (by omega)
  have c2 := hM.C.cell 2 (by omega)
  have c8 := hM.C.cell 8 (by omega)
  have cu := hM.U.cell j hj
  simp only [cC, slc] at c10 c2 c8
  have nf := ha.fn
  have n6 := ha.n6
  have HM : Hid (∀ q, Mem d (w.drewN q) st) := fun q => hM.drewN q
  have HM0 : Hid (Mem d w st) := hM
  have HF : Hid (∀ q, Fr (Own d) w (w.drewN q)) := fun q => (Fr.refl _ w).drewN
  have HA : Hid (Apart d base) := ha
  have H2 : Hid (∀ w' q, Fr (Own d) w w' → Mem d w' (vouchSt st j r1) → Calls Ybaf.prog 29 #[.pointer (some ⟨d.A, j * 2, none⟩), .int .i64 ((d.n : Int) - d.f), .int .i64 ((vouchSt st j r1).vch j)] (w'.drewN q) fun e w'' => e = .returned (.int .i64 r2) ∧ ∃ m, w'' = (w'.drewN q).drewN m) := hh2
  have H3 : Hid (st.ctrs j < r2 → ∀ w', Fr (Own d) w w' → Mem d w' (vouchSt st j r1) → Calls Ybaf.prog 30 #[.pointer (some ⟨d.C, 0, none⟩), .int .i64 j, .int .i64 r2] w' fun e w'' => e = .returned (.tuple #[]) ∧ Fr (Own d) w' w'' ∧ Mem d w'' R) := hadv
  clear hM ha hh2 hadv
  obtain ⟨S, hS⟩ : ∃ S, vouchSt st j r1 = S := ⟨_, rfl⟩
  have hK : S.ctrs = st.ctrs := by rw [← hS, vouchSt]; split <;> rfl
  by_cases hv : st.vch j < r1
  · have eS : S = { st with vch := up st.vch j r1 } := by rw [← hS, vouchSt, if_pos hv]
    rw [hS] at H2 H3 ⊢
    clear hS
    go_enter Ybaf.func19, Ybaf.ntmps19
    go_wp2_with fail
    go_quiet (first | (go_at_call 29; refine Calls.quiet_of (hh1 _)))
    go_wp2_with fail
    refine (setVouch_any d base HA.out j r1 st _ hj (HM.out _)).mono ?_
    rintro e w3 ⟨rfl, F3, M3⟩
    rw [← eS] at M3
    clear eS
    have c103 := M3.C.cell 10 (by omega)
    have c13 := M3.C.cell 1 (by omega)
    have c23 := M3.C.cell 2 (by omega)
    have c83 := M3.C.cell 8 (by omega)
    have c73 := M3.C.cell 7 (by omega)
    have cu3 := M3.U.cell j hj
    have ck3 := M3.K.cell j hj
    rw [hK] at ck3
    simp only [cC, slc] at c103 c13 c23 c83 c73
    have HM3 : Hid (∀ q, Mem d (w3.drewN q) S) := fun q => M3.drewN q
    have HF3 : Hid (∀ q, Fr (Own d) w (w3.drewN q)) := fun q => ((HF.out _).trans F3).drewN
    have HM3' : Hid (Mem d w3 S) := M3
    have HF3' : Hid (Fr (Own d) w w3) := (HF.out _).trans F3
    clear M3 F3
    by_cases hr : st.ctrs j < r2
    · have H4 := H3.out hr
      go_wp2_with fail
      go_quiet (first | (go_at_call 29; refine Calls.quiet_of (H2.out _ _ HF3'.out HM3'.out)))
      go_wp2_with fail
      refine (H4 _ (HF3.out _) (HM3.out _)).mono ?_
      rintro e w5 ⟨rfl, F5, M5⟩
      go_wp2_with fail
      go_end0
      exact ⟨rfl, Fr.trans (HF3.out _) F5, by first | exact M5 | (rw [if_pos hr]; exact M5)⟩
    · have hr' : r2 ≤ st.ctrs j := by omega
      go_wp2_with fail
      go_quiet (first | (go_at_call 29; refine Calls.quiet_of (H2.out _ _ HF3'.out HM3'.out)))
      go_wp2_with fail
      go_end0
      exact ⟨rfl, HF3.out _, by first | exact HM3.out _ | (rw [if_neg hr]; exact HM3.out _)⟩
  · have eS : S = st := by rw [← hS, vouchSt, if_neg hv]
    have hv' : r1 ≤ st.vch j := by omega
    have c1 := (HM.out 0).C.cell 1 (by omega)
    have c7 := (HM.out 0).C.cell 7 (by omega)
    have ck := (HM.out 0).K.cell j hj
    simp only [cC, slc] at c1 c7
    change w.cell? _ = _ at c1 c7 ck
    rw [hS, eS] at H2 H3 ⊢
    clear hS eS hK
    go_enter Ybaf.func19, Ybaf.ntmps19
    go_wp2_with fail
    go_quiet (first | (go_at_call 29; refine Calls.quiet_of (hh1 _)))
    by_cases hr : st.ctrs j < r2
    · have H4 := H3.out hr
      go_wp2_with fail
      go_quiet (first | (go_at_call 29; refine quiet_in (H2.out w _ (Fr.refl _ _) HM0.out)))
      go_wp2_with fail
      refine (H4 _ (HF.out _) (HM.out _)).mono ?_
      rintro e w5 ⟨rfl, F5, M5⟩
      go_wp2_with fail
      go_end0
      exact ⟨rfl, Fr.trans (HF.out _) F5, by first | exact M5 | (rw [if_pos hr]; exact M5)⟩
    · have hr' : r2 ≤ st.ctrs j := by omega
      go_wp2_with fail
      go_quiet (first | (go_at_call 29; refine quiet_in (H2.out w _ (Fr.refl _ _) HM0.out)))
      go_wp2_with fail
      go_end0
      exact ⟨rfl, HF.out _, by first | exact HM.out _ | (rw [if_neg hr]; exact HM.out _)⟩
end Go.Proofs.YbulkcwpuFmt
