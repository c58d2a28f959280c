/-
  'recount' (19) at a tally of one vouch, two nodes, no liar; 'takeInit' (17) at a node of which nothing was heard.
-/
import Derived.Test.YbulkcwpuFmtPlain
namespace Go.Proofs.YbulkcwpuFmt
open Go.RowKit Go.Lib
set_option linter.unusedVariables false

/-- What the node vouches for once it holds the other's vouch k. -/
def votedSt (st : St) (j : Nat) (k : Int) : St := vouchSt st j (if st.vch j < k then k else st.vch j)
theorem voted_vch (st : St) (j : Nat) (k : Int) : (votedSt st j k).vch j = if st.vch j < k then k else st.vch j := by
  unfold votedSt vouchSt
  by_cases h : st.vch j < k
  · rw [if_pos h, if_pos h]; exact up_same _ _ _
  · rw [if_neg h, if_neg (by omega)]
theorem voted_rest (st : St) (j : Nat) (k : Int) : ∃ u, votedSt st j k = { st with vch := u } ∧ (∀ i, i ≠ j → u i = st.vch i) ∧ (-1 ≤ st.vch j → -1 ≤ u j) := by
  unfold votedSt vouchSt
  by_cases h : st.vch j < k
  · rw [if_pos h, if_pos h]
    exact ⟨_, rfl, fun i hi => up_ne _ _ _ _ hi, fun h' => by rw [up_same]; omega⟩
  · rw [if_neg h, if_neg (by omega)]
    exact ⟨st.vch, rfl, fun i _ => rfl, fun h => h⟩

theorem recount_one (d : Nd) (base : Nat) (ha : Apart d base) (hn : d.n = 2) (hf : d.f = 0) (j Q c : Nat) (fr k : Int) (st : St) (w : World) (hj : j < d.n) (hM : Mem d w st)
    (hfew : st.few j = .slice (some ⟨Q, 0, none⟩) 1 c) (hc : 1 ≤ c) (hQ : ¬ Own d Q) (h1 : One w Q fr k) (hk : 0 ≤ k) (hct : st.ctrs j = -1) (hv : -1 ≤ st.vch j) (hl : 0 ≤ st.lctr j → st.lval j = 0 ∨ st.lval j = 1) :
    Calls Ybaf.prog 19 #[.pointer (some ⟨d.C, 0, none⟩), .int .i64 j] w fun e w' => e = .returned (.tuple #[]) ∧ Fr (Own d) w w' ∧ Mem d w' (advanceP d (votedSt st j k) j k) := by
  obtain ⟨u, hu, hu1, hu2⟩ := voted_rest st j k
  have hV := voted_vch st j k
  have hfewV : (votedSt st j k).few = st.few := by rw [hu]
  have h := recount_any d base ha j st (advanceP d (votedSt st j k) j k) (if st.vch j < k then k else st.vch j) k w hj hM
    (fun q => by
      rw [hf]
      exact (highest_one1 d.A (j * 2) Q c fr k (st.vch j) (w.drewN q) (((hM.drewN q).acell hj).trans (by rw [hfew])) ((hM.drewN q).acell1 hj) hv hc (h1.drewN q)).mono fun e w' ⟨m, he, hw⟩ => ⟨he, m, hw⟩)
    (fun w' q F M => by
      change Mem d w' (votedSt st j k) at M
      change Calls Ybaf.prog 29 #[_, _, .int .i64 ((votedSt st j k).vch j)] _ _
      rw [hn, hf, hV]
      exact (highest_one2 d.A (j * 2) Q c fr k _ (w'.drewN q) (((M.drewN q).acell hj).trans (by rw [hfewV, hfew])) ((M.drewN q).acell1 hj) hk (by split <;> omega) hc ((h1.fr F hQ).drewN q)).mono fun e w' ⟨m, he, hw⟩ => ⟨he, m, hw⟩)
    (fun _ w' F M => by
      change Mem d w' (votedSt st j k) at M
      exact advance_any d base ha j k (votedSt st j k) w' hj M (fun w2 st2 F2 M2 hfew2 => drop_one d base ha j Q c fr k st2 w2 hj M2 (by rw [hfew2, hfewV, hfew]) hc ((h1.fr F hQ).fr F2 hQ)) (fun he => by
        rw [hu] at he ⊢
        exact hl (by show 0 ≤ st.lctr j; have : st.lctr j = k := he; omega)))
  rw [if_pos (by omega)] at h
  exact h

/-- An init of the other node, taken or not. -/
theorem takeInit_two (d : Nd) (base : Nat) (ha : Apart d base) (hn : d.n = 2) (hf : d.f = 0) (j : Nat) (x k : Int) (st : St) (w : World) (hj : j < d.n) (hM : Mem d w st) (hc : st.ctrs j = -1) (hl : st.lctr j = -1) (hv : st.vch j = -1) (hfew : st.few j = nilS) :
    Calls Ybaf.prog 17 #[.pointer (some ⟨d.C, 0, none⟩), .agg #[.int .i64 j, .int .i64 x, .int .i64 k]] w fun e w' => e = .returned (.tuple #[]) ∧ Fr (Own d) w w' ∧ (Mem d w' st ∨ (0 ≤ k ∧ (x = 0 ∨ x = 1) ∧ Mem d w' (initSt st j x k))) := by
  by_cases hno : k < 0 ∨ ¬ (x = 0 ∨ x = 1)
  · exact (takeInit_no d base ha j x k st w hj hM hc hno).mono fun e w' ⟨he, hF, hM'⟩ => ⟨he, hF, .inl hM'⟩
  · have hk : 0 ≤ k := by omega
    have hx : x = 0 ∨ x = 1 := by omega
    refine (takeInit_yes d base ha j x k st (initSt st j x k) w hj hM hc hl hv hk hx ?_).mono fun e w' ⟨he, hF, hM'⟩ => ⟨he, hF, .inr ⟨hk, hx, hM'⟩⟩
    intro w1 F1 M1
    have hv1 : (initSt st j x k).vch j = k := up_same _ _ _
    have hfew1 : (initSt st j x k).few j = nilS := hfew
    have hvs : vouchSt (initSt st j x k) j k = initSt st j x k := by rw [vouchSt, if_neg (by rw [hv1]; omega)]
    have h := recount_any d base ha j (initSt st j x k) (initSt st j x k) k (-1) w1 hj M1
      (fun q => by
        rw [hf, hv1]
        exact (highest_nil1 d.A (j * 2) k (w1.drewN q) (((M1.drewN q).acell hj).trans (by rw [hfew1]; rfl)) ((M1.drewN q).acell1 hj) (by omega)).mono fun e w' ⟨m, he, hw⟩ => ⟨he, m, hw⟩)
      (fun w' q F M => by
        rw [hvs] at M ⊢
        rw [hv1]
        exact (highest_nil2 d.A (j * 2) k ((d.n : Int) - d.f) (w'.drewN q) (((M.drewN q).acell hj).trans (by rw [hfew1]; rfl)) ((M.drewN q).acell1 hj) (by omega) (by omega) (by omega)).mono fun e w' ⟨m, he, hw⟩ => ⟨he, m, hw⟩)
      (fun hlt => absurd hlt (by show ¬ (st.ctrs j < -1); omega))
    rw [if_neg (by show ¬ (st.ctrs j < -1); omega), hvs] at h
    exact h
end Go.Proofs.YbulkcwpuFmt
