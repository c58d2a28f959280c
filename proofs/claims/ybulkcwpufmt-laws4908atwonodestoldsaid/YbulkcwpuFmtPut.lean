/-
  The walks of 'levelRoom' (26), 'put' (28) and 'raise' (18) at an empty tally among two nodes.
-/
import Derived.Test.YbulkcwpuFmtTally
import Derived.Laws.Append
import Derived.Laws.CopyRow
import Derived.Lib.AppendZeros
import Derived.OwnWalk
import Derived.Test.YbulkcwpuFmtCpy
namespace Go.Proofs.YbulkcwpuFmt
open Go.RowKit Go.Lib
set_option linter.unusedVariables false

theorem info77 : (Ybaf.prog.info? 77).map (fun i => (i.zero, i.size, i.bytes)) = some (some (.agg #[.int .i64 0, .int .i64 0]), 2, 16) := by kernel_rfl

set_option maxRecDepth 20000 in
theorem words_two (w : World) : Calls Ybaf.prog 15 #[.int .i64 2] w fun e w' => e = .returned (.int .i64 1) ∧ w' = w := by
  go_enter Ybaf.func15, Ybaf.ntmps15
  go_wp2_with fail
  go_ret
  exact ⟨rfl, rfl⟩

set_option maxRecDepth 20000 in
theorem level_two (w : World) : Calls Ybaf.prog 26 #[.int .i64 2] w fun e w' => e = .returned (.int .i64 3) ∧ w' = w := by
  go_enter Ybaf.func26, Ybaf.ntmps26
  go_wp2_with fail
  refine (words_two _).mono ?_
  rintro e wx ⟨rfl, hwx⟩
  rw [hwx]
  clear hwx wx
  go_wp2_with fail
  go_ret
  exact ⟨rfl, rfl⟩

/-- A tally's list of one vouch. -/
structure One (w : World) (Q : Nat) (fr k : Int) : Prop where
  a : w.cell? ⟨Q, 0, none⟩ = some (.int .i64 fr)
  b : w.cell? ⟨Q, 1, none⟩ = some (.int .i64 k)
  lt : Q < w.heap.size

set_option maxRecDepth 20000 in
/-- 'append(nil, vouch{})': the new array. -/
theorem append_one (w : World) : ∃ Q c w2, (∀ ty, (Builtin.append_ #[49, 49] ty #[.slice none 0 0, .slice (some ⟨w.heap.size, 0, none⟩) 1 1]).run Ybaf.prog (w.alloc (.cells #[.int .i64 0, .int .i64 0] 77)) = .ok (.slice (some ⟨Q, 0, none⟩) 1 c) w2) ∧
    w.heap.size ≤ Q ∧ Q < w2.heap.size ∧ (1 ≤ c ∧ c < 2 ^ 63) ∧ Below w.heap.size w w2 ∧ w2.cell? ⟨Q, 0, none⟩ = some (.int .i64 0) ∧ w2.cell? ⟨Q, 1, none⟩ = some (.int .i64 0) ∧ w2.frozen? ⟨Q, 0, none⟩ = false ∧ w2.frozen? ⟨Q, 1, none⟩ = false := by
  obtain ⟨i0, hi, hz0, hz1, hz2⟩ := info_parts info77
  obtain ⟨w1, e1⟩ : ∃ w1, w.alloc (.cells #[.int .i64 0, .int .i64 0] 77) = w1 := ⟨_, rfl⟩
  have n0 : w1.cell? ⟨w.heap.size, 0, none⟩ = some (.int .i64 0) := by rw [← e1, World.cell?_alloc_at _ _ _ _ rfl]; rfl
  have n1 : w1.cell? ⟨w.heap.size, 1, none⟩ = some (.int .i64 0) := by rw [← e1, World.cell?_alloc_at _ _ _ _ rfl]; rfl
  have r := fun ty => run_append_nil (P := Ybaf.prog) (w := w1) 49 ty 77 i0 _ Ybaf.underlying49 hi hz0 ⟨w.heap.size, 0, none⟩ 1 1 [.int .i64 0, .int .i64 0] (by rw [hz1]; rfl)
    (by
      intro j v hj
      match j with
      | 0 => simp at hj; subst hj; exact n0
      | 1 => simp at hj; subst hj; exact n1
      | j + 2 => simp at hj) (by omega) (by omega) (by rw [hz2]; omega)
  rw [e1]
  refine ⟨_, _, _, r, ?_, ?_, ?_, ?_, ?_, ?_, ?_, ?_⟩
  · rw [← e1]; simp
  · simp
  · have : 1 ≤ grownCap w1 1 0 77 ∧ grownCap w1 1 0 77 < 2 ^ 63 := by
      unfold grownCap
      simp only [Question.cut]
      have := Nat.mod_lt (w1.tape w1.drawn (.appendCap 1 0 77)) (show 0 < 2 ^ 63 - 1 by omega)
      omega
    exact this
  · rw [← e1]
    exact (((Below.refl w.heap.size w).alloc (Nat.le_refl _) _).drew).alloc (by simp) _
  · exact (World.cell?_alloc_at (w := w1.drew) _ _ _ _ rfl).trans (by rw [Array.getElem?_append_left (by simp)]; rfl)
  · exact (World.cell?_alloc_at (w := w1.drew) _ _ _ _ rfl).trans (by rw [Array.getElem?_append_left (by simp)]; rfl)
  · exact World.frozen?_alloc_at _ _ _ _ rfl
  · exact World.frozen?_alloc_at _ _ _ _ rfl

/-- 'copy' of nothing. -/
theorem copy_zero (a b : Addr) (c1 l c2 : Nat) (ty : TypeId) (w : World) : (Builtin.copy_ #[49, 49] ty #[.slice (some a) 0 c1, .slice (some b) l c2]).run Ybaf.prog w = .ok (.int .i64 0) w := by
  obtain ⟨i0, hi, hz0, hz1, hz2⟩ := info_parts info77
  have hf := run_firstCells_some (P := Ybaf.prog) w i0.size 0 b l c2 [] (by simp) (by simp)
  have hf' : (Builtin.firstCells i0.size 0 (.slice (some b) l c2)).run Ybaf.prog w = .ok #[] w := hf
  simp [Builtin.copy_, run_underlying Ybaf.underlying49, sizeOf, typeInfo, hi, Builtin.lenOf, hf', Nat.min_eq_right, goInt, storeCells]

theorem quiet_copy {P : Program} {C : World → Prop} {K : Act → Prop} {a : Act} {o : Oper} (s x : Operand) (t : TypeId) (ho : o.op = .call { callee := .builtin .copy, args := #[s, x], argTypes := #[t, t] }) (v u r : Value) (hs : a.eval s = v) (hx : a.eval x = u)
    (hr : ∀ w, (Builtin.copy_ #[t, t] o.type #[v, u]).run P w = .ok r w) (hk : K (a.put o.dst r)) : o.quiet P a C K := by
  refine ⟨r, fun w _ => ?_, hk⟩
  unfold Oper.quietAt execOp
  simp only [ho, resolve, invoke, builtin, Sem.run_bind, Sem.run_pure, Result.andThen_ok, List.map_toArray, List.map_cons, List.map_nil, hs, hx, hr]
  exact ⟨rfl, rfl⟩

set_option maxRecDepth 20000 in
set_option maxHeartbeats 1600000 in
theorem put_nil (d : Nd) (base : Nat) (ha : Apart d base) (j : Nat) (fr k : Int) (st : St) (w : World) (hj : j < d.n) (hM : Mem d w st) (hfew : st.few j = nilS) :
    Calls Ybaf.prog 28 #[.pointer (some ⟨d.A, j * 2, none⟩), .int .i64 fr, .int .i64 k, .int .i64 2] w fun e w' => e = .returned (.tuple #[]) ∧ Fr (Own d) w w' ∧ ∃ Q c, 1 ≤ c ∧ ¬ Own d Q ∧ One w' Q fr k ∧ Mem d w' { st with few := up st.few j (.slice (some ⟨Q, 0, none⟩) 1 c) } := by
  have c0 := hM.acell hj
  rw [hfew, nilS] at c0
  have c1 := hM.acell1 hj
  obtain ⟨w1, e1⟩ : ∃ w1, w.alloc (.cells #[.int .i64 0, .int .i64 0] 77) = w1 := ⟨_, rfl⟩
  obtain ⟨Q, c, w2, hap, hQ, hQ2, ⟨hc, hc2⟩, B2, q0, q1, f0, f1⟩ := append_one w
  rw [e1] at hap
  have hnot : ¬ Own d Q := by have := hM.lt; unfold Own; omega
  have M1 : Mem d w1 st := e1 ▸ hM.fr ((Fr.refl (fun _ => False) w).alloc _) (fun _ _ h => h)
  have M2 : Mem d w2 st := hM.below B2
  have c01 := M1.acell hj
  have c12 := M2.acell hj
  rw [hfew, nilS] at c01 c12
  obtain ⟨g0, g1⟩ := M2.afree hj
  obtain ⟨w3, e3⟩ : ∃ w3, w2.setCell ⟨d.A, j * 2, none⟩ (.slice (some ⟨Q, 0, none⟩) 1 c) = w3 := ⟨_, rfl⟩
  have M3 : Mem d w3 { st with few := up st.few j (.slice (some ⟨Q, 0, none⟩) 1 c) } := e3 ▸ M2.setFew ha hj _
  have c03 := M3.acell hj
  simp only [up_same] at c03
  have hne : Q ≠ d.A := fun e => hnot (by rw [e]; simp [Own])
  have q03 : w3.cell? ⟨Q, 0, none⟩ = some (.int .i64 0) := by rw [← e3, World.cell?_setCell_other _ _ _ _ (fun h => hne (congrArg Addr.block h).symm)]; exact q0
  have q13 : w3.cell? ⟨Q, 1, none⟩ = some (.int .i64 0) := by rw [← e3, World.cell?_setCell_other _ _ _ _ (fun h => hne (congrArg Addr.block h).symm)]; exact q1
  have f03 : w3.frozen? ⟨Q, 0, none⟩ = false := by rw [← e3]; exact (World.frozen?_setCell ..).trans f0
  have f13 : w3.frozen? ⟨Q, 1, none⟩ = false := by rw [← e3]; exact (World.frozen?_setCell ..).trans f1
  have F3 : Fr (Own d) w w3 := e3 ▸ (Fr.of_below (S := Own d) B2).setCell (.inl (by simp [Own])) _
  have z3 : Q < w3.heap.size := by rw [← e3]; simpa [World.setCell] using hQ2
  have HM3 : Hid (Mem d w3 { st with few := up st.few j (.slice (some ⟨Q, 0, none⟩) 1 c) }) := M3
  have HF3 : Hid (Fr (Own d) w w3) := F3
  clear hM ha M1 M2 M3 F3
  by_cases h1 : c = 1
  · subst h1
    go_enter Ybaf.func28, Ybaf.ntmps28
    go_wp2_with fail
    refine wp_loop_rounds 1 ?_
    rw [rounds_succ]
    go_wp2_with fail
    refine wp_loop_rounds 1 ?_
    rw [rounds_succ]
    go_wp2_with (at_builtin; refine Lib.wpList_append_run _ rfl _ _ _ _ rfl _ _ rfl rfl _ _ (hap _) ?_)
    refine wp_region_quiet_lit (by kernel_rfl) (by kernel_rfl) ?_
    iterate 13 (go_big_quiet_step (fail))
    go_big_quiet_want
    refine quiet_copy _ _ 49 rfl _ _ _ rfl rfl (fun w => copy_zero _ _ _ _ _ _ w) ?_
    go_big_quiet_on
    refine wpQuiet_nil ?_
    intro _ hw'
    obtain ⟨nq, hw''⟩ := hw'
    subst hw''
    obtain ⟨x1, y1⟩ : ∃ x1, (w3.drewN nq).setCell ⟨Q, 0, none⟩ (.int .i64 fr) = x1 := ⟨_, rfl⟩
    have r0 : x1.cell? ⟨Q, 0, none⟩ = some (.int .i64 fr) := y1 ▸ World.cell?_setCell_same (w3.drewN nq) _ _ q03
    have r1 : x1.cell? ⟨Q, 1, none⟩ = some (.int .i64 0) := by rw [← y1, World.cell?_setCell_other _ _ _ _ (by intro h; cases h)]; exact q13
    have s1 : x1.frozen? ⟨Q, 1, none⟩ = false := by rw [← y1]; exact (World.frozen?_setCell ..).trans f13
    obtain ⟨x2, y2⟩ : ∃ x2, x1.setCell ⟨Q, 1, none⟩ (.int .i64 k) = x2 := ⟨_, rfl⟩
    have r2 : x2.cell? ⟨Q, 0, none⟩ = some (.int .i64 fr) := by rw [← y2, World.cell?_setCell_other _ _ _ _ (by intro h; cases h)]; exact r0
    have r3 : x2.cell? ⟨Q, 1, none⟩ = some (.int .i64 k) := y2 ▸ World.cell?_setCell_same _ _ _ r1
    have HQ : Hid (Fr (Own d) w x2 ∧ One x2 Q fr k ∧ Mem d x2 { st with few := up st.few j (.slice (some ⟨Q, 0, none⟩) 1 1) }) := by
      refine ⟨?_, ⟨r2, r3, ?_⟩, ?_⟩
      · rw [← y2, ← y1]
        exact ((HF3.out.drewN (q := nq)).setCell (.inr hQ) _).setCell (.inr hQ) _
      · rw [← y2, ← y1]; simpa [World.setCell] using z3
      · rw [← y2, ← y1]
        exact ((HM3.out.drewN nq).out (p := ⟨Q, 0, none⟩) hnot _).out (p := ⟨Q, 1, none⟩) hnot _
    go_wp2_with fail
    refine wp_loop_rounds 1 ?_
    rw [rounds_succ]
    go_wp2_with fail
    refine (level_two _).mono ?_
    rintro e wx ⟨rfl, hwx⟩
    rw [hwx]
    clear hwx wx
    go_wp2_with fail
    go_end0
    exact ⟨rfl, HQ.out.1, Q, 1, by omega, hnot, HQ.out.2⟩
  · go_enter Ybaf.func28, Ybaf.ntmps28
    go_wp2_with fail
    refine wp_loop_rounds 1 ?_
    rw [rounds_succ]
    go_wp2_with fail
    refine wp_loop_rounds 1 ?_
    rw [rounds_succ]
    go_wp2_with (at_builtin; refine Lib.wpList_append_run _ rfl _ _ _ _ rfl _ _ rfl rfl _ _ (hap _) ?_)
    refine wp_region_quiet_lit (by kernel_rfl) (by kernel_rfl) ?_
    iterate 13 (go_big_quiet_step (fail))
    go_big_quiet_want
    refine quiet_copy _ _ 49 rfl _ _ _ rfl rfl (fun w => copy_zero _ _ _ _ _ _ w) ?_
    go_big_quiet_on
    refine wpQuiet_nil ?_
    intro _ hw'
    obtain ⟨nq, hw''⟩ := hw'
    subst hw''
    obtain ⟨x1, y1⟩ : ∃ x1, (w3.drewN nq).setCell ⟨Q, 0, none⟩ (.int .i64 fr) = x1 := ⟨_, rfl⟩
    have r0 : x1.cell? ⟨Q, 0, none⟩ = some (.int .i64 fr) := y1 ▸ World.cell?_setCell_same (w3.drewN nq) _ _ q03
    have r1 : x1.cell? ⟨Q, 1, none⟩ = some (.int .i64 0) := by rw [← y1, World.cell?_setCell_other _ _ _ _ (by intro h; cases h)]; exact q13
    have s1 : x1.frozen? ⟨Q, 1, none⟩ = false := by rw [← y1]; exact (World.frozen?_setCell ..).trans f13
    obtain ⟨x2, y2⟩ : ∃ x2, x1.setCell ⟨Q, 1, none⟩ (.int .i64 k) = x2 := ⟨_, rfl⟩
    have r2 : x2.cell? ⟨Q, 0, none⟩ = some (.int .i64 fr) := by rw [← y2, World.cell?_setCell_other _ _ _ _ (by intro h; cases h)]; exact r0
    have r3 : x2.cell? ⟨Q, 1, none⟩ = some (.int .i64 k) := y2 ▸ World.cell?_setCell_same _ _ _ r1
    have HQ : Hid (Fr (Own d) w x2 ∧ One x2 Q fr k ∧ Mem d x2 { st with few := up st.few j (.slice (some ⟨Q, 0, none⟩) 1 c) }) := by
      refine ⟨?_, ⟨r2, r3, ?_⟩, ?_⟩
      · rw [← y2, ← y1]
        exact ((HF3.out.drewN (q := nq)).setCell (.inr hQ) _).setCell (.inr hQ) _
      · rw [← y2, ← y1]; simpa [World.setCell] using z3
      · rw [← y2, ← y1]
        exact ((HM3.out.drewN nq).out (p := ⟨Q, 0, none⟩) hnot _).out (p := ⟨Q, 1, none⟩) hnot _
    go_wp2_with fail
    refine wp_loop_rounds 1 ?_
    rw [rounds_succ]
    go_wp2_with fail
    refine (level_two _).mono ?_
    rintro e wx ⟨rfl, hwx⟩
    rw [hwx]
    clear hwx wx
    go_wp2_with fail
    go_end0
    exact ⟨rfl, HQ.out.1, Q, c, by omega, hnot, HQ.out.2⟩

set_option maxRecDepth 20000 in
set_option maxHeartbeats 800000 in
theorem raise_nil (d : Nd) (base : Nat) (ha : Apart d base) (j : Nat) (fr k : Int) (st : St) (w : World) (hj : j < d.n) (hM : Mem d w st) (hfew : st.few j = nilS) :
    Calls Ybaf.prog 18 #[.pointer (some ⟨d.A, j * 2, none⟩), .int .i64 fr, .int .i64 k, .int .i64 2] w fun e w' => e = .returned (.bool true) ∧ Fr (Own d) w w' ∧ ∃ Q c, 1 ≤ c ∧ ¬ Own d Q ∧ One w' Q fr k ∧ Mem d w' { st with few := up st.few j (.slice (some ⟨Q, 0, none⟩) 1 c) } := by
  have c0 := hM.acell hj
  rw [hfew, nilS] at c0
  have c1 := hM.acell1 hj
  have HP := put_nil d base ha j fr k st w hj hM hfew
  clear hM ha
  go_enter Ybaf.func18, Ybaf.ntmps18
  go_wp2_with fail
  refine wp_loop_rounds 1 ?_
  rw [rounds_succ]
  go_wp2_with fail
  refine wp_loop_rounds 1 ?_
  rw [rounds_succ]
  go_wp2_with fail
  refine HP.mono ?_
  rintro e w2 ⟨rfl, h2⟩
  go_wp2_with fail
  go_ret
  exact ⟨rfl, h2⟩
end Go.Proofs.YbulkcwpuFmt
