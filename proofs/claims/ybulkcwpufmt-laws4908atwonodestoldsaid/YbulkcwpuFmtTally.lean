import Derived.Test.YbulkcwpuFmtMem
import Derived.BigRegion
import Derived.BigQuiet
import Derived.Deep.RegionWith
import Derived.Lib.SliceRun
namespace Go.Proofs.YbulkcwpuFmt
open Go.RowKit Go.Lib
set_option linter.unusedVariables false

section
variable {d : Nd} {w : World} {st : St} {base : Nat}
theorem Mem.acell (h : Mem d w st) {j : Nat} (hj : j < d.n) : w.cell? ⟨d.A, j * 2, none⟩ = some (st.few j) := by
  have := h.A.cell (j * 2) (by omega)
  rw [cA, if_pos (by omega), Nat.mul_div_cancel j (by omega : 0 < 2)] at this
  exact this
theorem Mem.acell1 (h : Mem d w st) {j : Nat} (hj : j < d.n) : w.cell? ⟨d.A, j * 2 + 1, none⟩ = some (.slice none 0 0) := by
  have := h.A.cell (j * 2 + 1) (by omega)
  rw [cA, if_neg (by omega)] at this
  exact this
theorem Mem.afree (h : Mem d w st) {j : Nat} (hj : j < d.n) : w.frozen? ⟨d.A, j * 2, none⟩ = false ∧ w.frozen? ⟨d.A, j * 2 + 1, none⟩ = false := ⟨h.A.free _ (by omega), h.A.free _ (by omega)⟩
end

set_option maxRecDepth 20000 in
set_option maxHeartbeats 800000 in
theorem setVouch_any (d : Nd) (base : Nat) (ha : Apart d base) (j : Nat) (k : Int) (st : St) (w : World) (hj : j < d.n) (hM : Mem d w st) :
    Calls Ybaf.prog 23 #[.pointer (some ⟨d.C, 0, none⟩), .int .i64 j, .int .i64 k] w fun e w' => e = .returned (.tuple #[]) ∧ Fr (Own d) w w' ∧ Mem d w' { st with vch := up st.vch j k } := by
  have c9 := hM.C.cell 9 (by omega)
  have c8 := hM.C.cell 8 (by omega)
  have cu := hM.U.cell j hj
  have fu := hM.U.free j hj
  simp only [cC, slc] at c9 c8
  have HM : Hid (Mem d (w.setCell ⟨d.U, j, none⟩ (.int .i64 k)) { st with vch := up st.vch j k }) := hM.setU ha hj k
  have HF : Hid (Fr (Own d) w (w.setCell ⟨d.U, j, none⟩ (.int .i64 k))) := (Fr.refl _ _).setCell (.inl (by simp [Own])) _
  clear hM ha
  go_enter Ybaf.func23, Ybaf.ntmps23
  go_wp2_with fail
  go_end0
  exact ⟨rfl, HF.out, HM.out⟩

set_option maxRecDepth 20000 in
set_option maxHeartbeats 800000 in
theorem drop_nil (d : Nd) (base : Nat) (ha : Apart d base) (j : Nat) (k : Int) (st : St) (w : World) (hj : j < d.n) (hM : Mem d w st) (hfew : st.few j = nilS) :
    Calls Ybaf.prog 38 #[.pointer (some ⟨d.A, j * 2, none⟩), .int .i64 k] w fun e w' => e = .returned (.tuple #[]) ∧ Fr (Own d) w w' ∧ Mem d w' { st with few := up st.few j nilS } := by
  have c0 := hM.acell hj
  rw [hfew, nilS] at c0
  have c1 := hM.acell1 hj
  obtain ⟨f0, f1⟩ := hM.afree hj
  obtain ⟨w1, e1⟩ : ∃ w1, w.setCell ⟨d.A, j * 2, none⟩ (.slice none 0 0) = w1 := ⟨_, rfl⟩
  have M1 : Mem d w1 { st with few := up st.few j nilS } := e1 ▸ hM.setFew ha hj _
  have F1 : Fr (Own d) w w1 := e1 ▸ (Fr.refl _ _).setCell (.inl (by simp [Own])) _
  have c01 := M1.acell hj
  have c11 := M1.acell1 hj
  obtain ⟨f01, f11⟩ := M1.afree hj
  obtain ⟨w2, e2⟩ : ∃ w2, w1.setCell ⟨d.A, j * 2, none⟩ (.slice none 0 0) = w2 := ⟨_, rfl⟩
  have M2 : Mem d w2 { st with few := up (up st.few j nilS) j nilS } := e2 ▸ M1.setFew ha hj _
  have F2 : Fr (Own d) w w2 := e2 ▸ F1.setCell (.inl (by simp [Own])) _
  have c12 := M2.acell1 hj
  obtain ⟨f02, f12⟩ := M2.afree hj
  obtain ⟨w3, e3⟩ : ∃ w3, w2.setCell ⟨d.A, j * 2 + 1, none⟩ (.slice none 0 0) = w3 := ⟨_, rfl⟩
  have M3 : Mem d w3 { st with few := up (up st.few j nilS) j nilS } := e3 ▸ M2.setMany ha hj
  have F3 : Fr (Own d) w w3 := e3 ▸ F2.setCell (.inl (by simp [Own])) _
  have c13 := M3.acell1 hj
  obtain ⟨f03, f13⟩ := M3.afree hj
  obtain ⟨w4, e4⟩ : ∃ w4, w3.setCell ⟨d.A, j * 2 + 1, none⟩ (.slice none 0 0) = w4 := ⟨_, rfl⟩
  have M4 : Mem d w4 { st with few := up (up st.few j nilS) j nilS } := e4 ▸ M3.setMany ha hj
  have F4 : Fr (Own d) w w4 := e4 ▸ F3.setCell (.inl (by simp [Own])) _
  have ee : up (up st.few j nilS) j nilS = up st.few j nilS := by funext i; simp only [up]; split <;> rfl
  rw [ee] at M4
  simp only [up_same, nilS] at c01
  have HM : Hid (Mem d w4 { st with few := up st.few j nilS }) := M4
  have HF : Hid (Fr (Own d) w w4) := F4
  have hcl : ∀ ty w, (Builtin.clear_ #[50] ty #[.slice none 0 0]).run Ybaf.prog w = .ok (.tuple #[]) w := fun ty w => by simp [Builtin.clear_, run_underlying Ybaf.underlying50]
  clear hM ha M1 M2 M3 M4 F1 F2 F3 F4 ee
  go_enter Ybaf.func38, Ybaf.ntmps38
  go_wp2_with fail
  refine wp_loop_rounds 1 ?_
  rw [rounds_succ]
  go_wp2_with fail
  refine wp_loop_rounds 1 ?_
  rw [rounds_succ]
  go_wp2_with (simp only [hcl])
  go_end0
  exact ⟨rfl, HF.out, HM.out⟩

set_option maxRecDepth 20000 in
set_option maxHeartbeats 800000 in
theorem highest_nil1 (A p : Nat) (own : Int) (w : World) (c0 : w.cell? ⟨A, p, none⟩ = some (.slice none 0 0)) (c1 : w.cell? ⟨A, p + 1, none⟩ = some (.slice none 0 0)) (ho : -1 ≤ own) :
    Calls Ybaf.prog 29 #[.pointer (some ⟨A, p, none⟩), .int .i64 1, .int .i64 own] w fun e w' => ∃ q, e = .returned (.int .i64 own) ∧ w' = w.drewN q := by
  have h1 : (own == -9223372036854775808) = false := by simp; omega
  go_enter Ybaf.func29, Ybaf.ntmps29
  go_wp2_with fail
  go_quiet (fail)
  go_wp2_with fail
  refine wp_loop_rounds 2 ?_
  rw [rounds_succ]
  go_wp2_with fail
  go_quiet (fail)
  go_wp2_with fail
  go_ret
  exact ⟨_, rfl, rfl⟩

set_option maxRecDepth 20000 in
set_option maxHeartbeats 800000 in
theorem highest_nil2 (A p : Nat) (own c : Int) (w : World) (c0 : w.cell? ⟨A, p, none⟩ = some (.slice none 0 0)) (c1 : w.cell? ⟨A, p + 1, none⟩ = some (.slice none 0 0)) (ho : -1 ≤ own) (hc : 2 ≤ c) (hc2 : c < 100) :
    Calls Ybaf.prog 29 #[.pointer (some ⟨A, p, none⟩), .int .i64 c, .int .i64 own] w fun e w' => ∃ q, e = .returned (.int .i64 (-1)) ∧ w' = w.drewN q := by
  have h1 : (own == -9223372036854775808) = false := by simp; omega
  have h2 : decide (c - 1 ≤ 0) = false := by simp; omega
  have h3 : (0 : Int) < c - 1 := by omega
  go_enter Ybaf.func29, Ybaf.ntmps29
  go_wp2_with fail
  go_quiet (fail)
  go_wp2_with fail
  refine wp_loop_rounds 2 ?_
  rw [rounds_succ]
  go_wp2_with fail
  go_quiet (fail)
  go_wp2_with fail
  rw [rounds_succ]
  go_wp2_with fail
  go_quiet (fail)
  go_wp2_with fail
  go_ret
  exact ⟨_, rfl, rfl⟩
end Go.Proofs.YbulkcwpuFmt
