/-
  The walks of 'drop' (38) and 'highest' (29) at a tally of one vouch.
-/
import Derived.Test.YbulkcwpuFmtPut
namespace Go.Proofs.YbulkcwpuFmt
open Go.RowKit Go.Lib
set_option linter.unusedVariables false

theorem One.fr {w w' : World} {Q : Nat} {fr k : Int} {S : Nat → Prop} (h : One w Q fr k) (hf : Fr S w w') (hS : ¬ S Q) : One w' Q fr k :=
  ⟨(hf.cell (p := ⟨Q, 0, none⟩) h.lt hS).trans h.a, (hf.cell (p := ⟨Q, 1, none⟩) h.lt hS).trans h.b, Nat.lt_of_lt_of_le h.lt hf.size⟩
theorem One.drewN {w : World} {Q : Nat} {fr k : Int} (h : One w Q fr k) (q : Nat) : One (w.drewN q) Q fr k := ⟨h.a, h.b, h.lt⟩

set_option maxRecDepth 20000 in
set_option maxHeartbeats 800000 in
theorem highest_one1 (A p Q c : Nat) (fr k own : Int) (w : World) (c0 : w.cell? ⟨A, p, none⟩ = some (.slice (some ⟨Q, 0, none⟩) 1 c)) (c1 : w.cell? ⟨A, p + 1, none⟩ = some (.slice none 0 0)) (ho : -1 ≤ own) (hc : 1 ≤ c) (h1 : One w Q fr k) :
    Calls Ybaf.prog 29 #[.pointer (some ⟨A, p, none⟩), .int .i64 1, .int .i64 own] w fun e w' => ∃ q, e = .returned (.int .i64 (if own < k then k else own)) ∧ w' = w.drewN q := by
  have h2 : (own == -9223372036854775808) = false := by simp; omega
  have q1 := h1.b
  clear h1
  by_cases hk : own < k
  · have hd : decide (own < k) = true := decide_eq_true hk
    rw [if_pos hk]
    by_cases hc1 : c = 1
    · subst hc1
      go_enter Ybaf.func29, Ybaf.ntmps29
      go_wp2_with fail
      go_quiet (fail)
      go_wp2_with fail
      refine wp_loop_rounds 2 ?_
      rw [rounds_succ]
      go_wp2_with fail
      go_quiet (fail)
      go_wp2_with fail
      go_quiet (fail)
      go_wp2_with fail
      go_ret
      exact ⟨_, rfl, rfl⟩
    · go_enter Ybaf.func29, Ybaf.ntmps29
      go_wp2_with fail
      go_quiet (fail)
      go_wp2_with fail
      refine wp_loop_rounds 2 ?_
      rw [rounds_succ]
      go_wp2_with fail
      go_quiet (fail)
      go_wp2_with fail
      go_quiet (fail)
      go_wp2_with fail
      go_ret
      exact ⟨_, rfl, rfl⟩
  · have hd : decide (own < k) = false := decide_eq_false hk
    rw [if_neg hk]
    clear hk
    go_enter Ybaf.func29, Ybaf.ntmps29
    go_wp2_with fail
    go_quiet (fail)
    go_wp2_with fail
    refine wp_loop_rounds 2 ?_
    rw [rounds_succ]
    go_wp2_with fail
    go_quiet (fail)
    go_wp2_with fail
    go_ret
    exact ⟨_, rfl, rfl⟩

set_option maxRecDepth 20000 in
set_option maxHeartbeats 800000 in
theorem highest_one2 (A p Q c : Nat) (fr k own : Int) (w : World) (c0 : w.cell? ⟨A, p, none⟩ = some (.slice (some ⟨Q, 0, none⟩) 1 c)) (c1 : w.cell? ⟨A, p + 1, none⟩ = some (.slice none 0 0)) (hk0 : 0 ≤ k) (hko : k ≤ own) (hc : 1 ≤ c) (h1 : One w Q fr k) :
    Calls Ybaf.prog 29 #[.pointer (some ⟨A, p, none⟩), .int .i64 2, .int .i64 own] w fun e w' => ∃ q, e = .returned (.int .i64 k) ∧ w' = w.drewN q := by
  have h2 : (own == -9223372036854775808) = false := by simp; omega
  have q1 := h1.b
  have hd : decide (own < k) = false := decide_eq_false (by omega)
  have hd2 : decide ((-9223372036854775808 : Int) < k) = true := decide_eq_true (by omega)
  clear h1
  by_cases hc1 : c = 1
  · subst hc1
    go_enter Ybaf.func29, Ybaf.ntmps29
    go_wp2_with fail
    go_quiet (fail)
    go_wp2_with fail
    refine wp_loop_rounds 2 ?_
    rw [rounds_succ]
    go_wp2_with fail
    go_quiet (fail)
    go_wp2_with fail
    rw [rounds_succ]
    go_wp2_with fail
    go_quiet (fail)
    go_wp2_with fail
    go_quiet (fail)
    go_wp2_with fail
    go_ret
    exact ⟨_, rfl, rfl⟩
  · go_enter Ybaf.func29, Ybaf.ntmps29
    go_wp2_with fail
    go_quiet (fail)
    go_wp2_with fail
    refine wp_loop_rounds 2 ?_
    rw [rounds_succ]
    go_wp2_with fail
    go_quiet (fail)
    go_wp2_with fail
    rw [rounds_succ]
    go_wp2_with fail
    go_quiet (fail)
    go_wp2_with fail
    go_quiet (fail)
    go_wp2_with fail
    go_ret
    exact ⟨_, rfl, rfl⟩

set_option maxRecDepth 20000 in
set_option maxHeartbeats 800000 in
theorem drop_one (d : Nd) (base : Nat) (ha : Apart d base) (j Q c : Nat) (fr k : Int) (st : St) (w : World) (hj : j < d.n) (hM : Mem d w st) (hfew : st.few j = .slice (some ⟨Q, 0, none⟩) 1 c) (hc : 1 ≤ c) (h1 : One w Q fr k) :
    Calls Ybaf.prog 38 #[.pointer (some ⟨d.A, j * 2, none⟩), .int .i64 k] w fun e w' => e = .returned (.tuple #[]) ∧ Fr (Own d) w w' ∧ Mem d w' { st with few := up st.few j nilS } := by
  have c0 := hM.acell hj
  rw [hfew] at c0
  have c1 := hM.acell1 hj
  have q1 := h1.b
  obtain ⟨f0, f1⟩ := hM.afree hj
  obtain ⟨w1, e1⟩ : ∃ w1, w.setCell ⟨d.A, j * 2, none⟩ (.slice (some ⟨Q, 0, none⟩) 0 c) = w1 := ⟨_, rfl⟩
  have M1 : Mem d w1 { st with few := up st.few j (.slice (some ⟨Q, 0, none⟩) 0 c) } := e1 ▸ hM.setFew ha hj _
  have F1 : Fr (Own d) w w1 := e1 ▸ (Fr.refl _ _).setCell (.inl (by simp [Own])) _
  have c01 := M1.acell hj
  have c11 := M1.acell1 hj
  obtain ⟨f01, f11⟩ := M1.afree hj
  obtain ⟨w2, e2⟩ : ∃ w2, w1.setCell ⟨d.A, j * 2, none⟩ (.slice none 0 0) = w2 := ⟨_, rfl⟩
  have M2 : Mem d w2 { st with few := up (up st.few j (.slice (some ⟨Q, 0, none⟩) 0 c)) j nilS } := e2 ▸ M1.setFew ha hj _
  have F2 : Fr (Own d) w w2 := e2 ▸ F1.setCell (.inl (by simp [Own])) _
  have c12 := M2.acell1 hj
  obtain ⟨f02, f12⟩ := M2.afree hj
  obtain ⟨w3, e3⟩ : ∃ w3, w2.setCell ⟨d.A, j * 2 + 1, none⟩ (.slice none 0 0) = w3 := ⟨_, rfl⟩
  have M3 : Mem d w3 { st with few := up (up st.few j (.slice (some ⟨Q, 0, none⟩) 0 c)) j nilS } := e3 ▸ M2.setMany ha hj
  have F3 : Fr (Own d) w w3 := e3 ▸ F2.setCell (.inl (by simp [Own])) _
  have c13 := M3.acell1 hj
  obtain ⟨f03, f13⟩ := M3.afree hj
  obtain ⟨w4, e4⟩ : ∃ w4, w3.setCell ⟨d.A, j * 2 + 1, none⟩ (.slice none 0 0) = w4 := ⟨_, rfl⟩
  have M4 : Mem d w4 { st with few := up (up st.few j (.slice (some ⟨Q, 0, none⟩) 0 c)) j nilS } := e4 ▸ M3.setMany ha hj
  have F4 : Fr (Own d) w w4 := e4 ▸ F3.setCell (.inl (by simp [Own])) _
  have ee : up (up st.few j (.slice (some ⟨Q, 0, none⟩) 0 c)) j nilS = up st.few j nilS := by funext i; simp only [up]; split <;> rfl
  rw [ee] at M4
  simp only [up_same] at c01
  have HM : Hid (Mem d w4 { st with few := up st.few j nilS }) := M4
  have HF : Hid (Fr (Own d) w w4) := F4
  have hcl : ∀ ty w, (Builtin.clear_ #[50] ty #[.slice none 0 0]).run Ybaf.prog w = .ok (.tuple #[]) w := fun ty w => by simp [Builtin.clear_, run_underlying Ybaf.underlying50]
  have hd : decide (k < k) = false := decide_eq_false (by omega)
  have hc0 : ¬ c = 0 := by omega
  clear hM ha M1 M2 M3 M4 F1 F2 F3 F4 ee h1
  go_enter Ybaf.func38, Ybaf.ntmps38
  go_wp2_with fail
  refine wp_loop_rounds 1 ?_
  rw [rounds_succ]
  go_wp2_with fail
  refine wp_loop_rounds 1 ?_
  rw [rounds_succ]
  go_wp2_with (simp only [hcl])
  go_end0
  exact ⟨rfl, HF.out, HM.out⟩
end Go.Proofs.YbulkcwpuFmt
