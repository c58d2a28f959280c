import Derived.Test.YbulkcwpuFmtNew
namespace Go.Proofs.YbulkcwpuFmt
open Go.RowKit Go.Lib
set_option linter.unusedVariables false

def oneSt (d : Nd) : St := initSt (freshSt d) d.s d.inp 0
def newSt (d : Nd) : St := if (d.n : Int) - d.f = 1 then advanceP d (oneSt d) d.s 0 else oneSt d

theorem fresh_take (d : Nd) (base : Nat) (ha : Apart d base) (w : World) (hM : Mem d w (freshSt d)) :
    Calls Ybaf.prog 17 #[.pointer (some ⟨d.C, 0, none⟩), .agg #[.int .i64 d.s, .int .i64 d.inp, .int .i64 0]] w fun e w' => e = .returned (.tuple #[]) ∧ Fr (Own d) w w' ∧ Mem d w' (newSt d) := by
  have hs := ha.sn
  have hf := ha.fn
  refine takeInit_yes d base ha d.s d.inp 0 (freshSt d) (newSt d) w ha.sn hM rfl rfl rfl (by omega) ha.bin ?_
  intro w1 F1 M1
  change Mem d w1 (oneSt d) at M1
  have hv : (oneSt d).vch d.s = 0 := by simp [oneSt, initSt, up]
  have hfew : (oneSt d).few d.s = nilS := rfl
  obtain ⟨r1, hr1, h1⟩ : ∃ r1 : Int, r1 ≤ 0 ∧ ∀ q, Calls Ybaf.prog 29 #[.pointer (some ⟨d.A, d.s * 2, none⟩), .int .i64 ((d.f : Int) + 1), .int .i64 ((oneSt d).vch d.s)] (w1.drewN q) fun e w' => e = .returned (.int .i64 r1) ∧ ∃ m, w' = (w1.drewN q).drewN m := by
    by_cases h0 : d.f = 0
    · refine ⟨0, by omega, fun q => ?_⟩
      rw [hv, h0]
      exact (highest_nil1 d.A (d.s * 2) 0 (w1.drewN q) ((M1.drewN q).acell hs) ((M1.drewN q).acell1 hs) (by omega)).mono fun e w' ⟨m, he, hw⟩ => ⟨he, m, hw⟩
    · refine ⟨-1, by omega, fun q => ?_⟩
      rw [hv]
      exact (highest_nil2 d.A (d.s * 2) 0 ((d.f : Int) + 1) (w1.drewN q) ((M1.drewN q).acell hs) ((M1.drewN q).acell1 hs) (by omega) (by omega) (by have := ha.n6; omega)).mono fun e w' ⟨m, he, hw⟩ => ⟨he, m, hw⟩
  have hvs : vouchSt (oneSt d) d.s r1 = oneSt d := by rw [vouchSt, if_neg (by rw [hv]; omega)]
  by_cases hone : (d.n : Int) - d.f = 1
  · have h := recount_any d base ha d.s (oneSt d) (advanceP d (oneSt d) d.s 0) r1 0 w1 hs M1 h1
      (fun w' q F M => by
        rw [hvs] at M ⊢
        rw [hv, hone]
        exact (highest_nil1 d.A (d.s * 2) 0 (w'.drewN q) ((M.drewN q).acell hs) ((M.drewN q).acell1 hs) (by omega)).mono fun e w' ⟨m, he, hw⟩ => ⟨he, m, hw⟩)
      (fun _ w' F M => by
        rw [hvs] at M
        exact advance_any d base ha d.s 0 (oneSt d) w' hs M (fun w2 st2 F2 M2 hfew2 => drop_nil d base ha d.s 0 st2 w2 hs M2 (by rw [hfew2]; rfl)) (fun _ => by
          have : (oneSt d).lval d.s = d.inp := by simp [oneSt, initSt, up]
          rw [this]; exact ha.bin))
    have hc : (oneSt d).ctrs d.s < 0 := by show (-1 : Int) < 0; omega
    rw [if_pos hc] at h
    rw [newSt, if_pos hone]
    exact h
  · have h := recount_any d base ha d.s (oneSt d) (oneSt d) r1 (-1) w1 hs M1 h1
      (fun w' q F M => by
        rw [hvs] at M ⊢
        rw [hv]
        exact (highest_nil2 d.A (d.s * 2) 0 ((d.n : Int) - d.f) (w'.drewN q) ((M.drewN q).acell hs) ((M.drewN q).acell1 hs) (by omega) (by omega) (by have := ha.n6; omega)).mono fun e w' ⟨m, he, hw⟩ => ⟨he, m, hw⟩)
      (fun hc => absurd hc (by show ¬ ((-1 : Int) < -1); omega))
    have hc : ¬ (oneSt d).ctrs d.s < -1 := by show ¬ ((-1 : Int) < -1); omega
    rw [if_neg hc, hvs] at h
    rw [newSt, if_neg hone]
    exact h

theorem new_ok (n s f : Nat) (inp : Int) (w : World) (hn : n ≤ 6) (hn1 : 1 ≤ n) (hf : f < n) (hs : s < n) (hi : inp = 0 ∨ inp = 1) :
    Calls Ybaf.prog 5 #[.int .i64 s, .int .i64 n, .int .i64 f, .int .i64 inp] w fun e w' => ∃ d, e = .returned (.pointer (some ⟨d.C, 0, none⟩)) ∧ Apart d w.heap.size ∧ d.n = n ∧ d.s = s ∧ d.f = f ∧ d.inp = inp ∧ Below w.heap.size w w' ∧ Mem d w' (newSt d) :=
  new_any n s f inp w hn hn1 hf hs hi newSt (fun d w' ha _ _ _ _ M => fresh_take d _ ha w' M)

theorem few_confirm (d : Nd) (st : St) (j v : Nat) : (confirmP d st j v).few = st.few := by unfold confirmP; (repeat' split) <;> rfl
theorem few_hear (d : Nd) (st R : St) (j v k : Nat) (h : R.few = st.few) : (hearG d st j v k R).few = st.few := by
  unfold hearG
  split
  · rfl
  · split
    · exact h
    · split
      · rw [few_confirm]; rfl
      · rfl
theorem few_start (d : Nd) (st : St) (j v : Nat) : (startEchoP d st j v).few = st.few := by
  unfold startEchoP
  split
  · rfl
  · rw [few_hear _ _ _ _ _ _ rfl]; rfl
theorem few_take (d : Nd) (st : St) (j v : Nat) : (takeAtP d st j v).few = st.few := by
  unfold takeAtP
  split
  · rfl
  · rw [few_start]
theorem few_mid (d : Nd) (st : St) (j : Nat) (k : Int) : (advMid d st j k).few = up st.few j nilS := by
  unfold advMid
  split
  · split
    · rw [few_take]; rfl
    · rfl
  · rfl
theorem few_new (d : Nd) (j : Nat) : (newSt d).few j = nilS := by
  unfold newSt
  split
  · show (advMid d (oneSt d) d.s 0).few j = nilS
    rw [few_mid]
    unfold up
    split <;> rfl
  · rfl
end Go.Proofs.YbulkcwpuFmt
