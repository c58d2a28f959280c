/-
  The walks of 'Receive' (function 8) at a report that is ignored, and of 'Output' (function 10).
-/
import Derived.Test.YbulkcwpuFmtMem
namespace Go.Proofs.YbulkcwpuFmt
open Go.RowKit Go.Lib
set_option linter.unusedVariables false

theorem output_any (d : Nd) (st : St) (w : World) (hM : Mem d w st) : Calls Ybaf.prog 10 #[.pointer (some ⟨d.C, 0, none⟩)] w fun e w' => e = .returned (.int .i64 st.out) ∧ w' = w := by
  have c := hM.C.cell 15 (by omega)
  simp only [cC] at c
  clear hM
  go_enter Ybaf.func10, Ybaf.ntmps10
  go_wp2_with fail
  go_ret
  exact ⟨rfl, rfl⟩

set_option maxRecDepth 20000 in
set_option maxHeartbeats 800000 in
theorem receive_ign (d : Nd) (st : St) (w : World) (hM : Mem d w st) (fr a b c : Int) (p q : Option Addr) (l1 c1 l2 c2 : Nat) (hfr : fr < 0 ∨ (d.n : Int) ≤ fr ∨ fr = d.s) :
    Calls Ybaf.prog 8 #[.pointer (some ⟨d.C, 0, none⟩), .int .i64 fr, .agg #[.int .i64 a, .int .i64 b, .int .i64 c, .slice p l1 c1, .slice q l2 c2]] w fun e w' => e = .returned (.tuple #[]) ∧ Below w.heap.size w w' := by
  obtain ⟨w1, e1⟩ : ∃ w1, w.alloc (.cells #[.int .i64 a, .int .i64 b, .int .i64 c, .slice p l1 c1, .slice q l2 c2] 33) = w1 := ⟨_, rfl⟩
  have M1 : Mem d w1 st := e1 ▸ hM.fr ((Fr.refl (fun _ => False) w).alloc _) (fun _ _ h => h)
  have B1 : Hid (Below w.heap.size w w1) := e1 ▸ (Below.refl _ w).alloc (Nat.le_refl _) _
  have cn := M1.C.cell 1 (by omega)
  have cs := M1.C.cell 0 (by omega)
  simp only [cC] at cn cs
  clear hM M1
  by_cases h0 : fr < 0
  · clear hfr
    go_enter Ybaf.func8, Ybaf.ntmps8
    go_wp2_with fail
    (try simp only [Exit.inBlock, Exit.then]); refine bodyPost_ret (results_none rfl _ _ _) rfl ?_
    exact ⟨rfl, B1.out⟩
  · have h0' : decide (fr < 0) = false := decide_eq_false h0
    by_cases h1 : (d.n : Int) ≤ fr
    · have h1' : decide ((d.n : Int) ≤ fr) = true := decide_eq_true h1
      clear hfr
      go_enter Ybaf.func8, Ybaf.ntmps8
      go_wp2_with fail
      (try simp only [Exit.inBlock, Exit.then]); refine bodyPost_ret (results_none rfl _ _ _) rfl ?_
      exact ⟨rfl, B1.out⟩
    · have h1' : decide ((d.n : Int) ≤ fr) = false := decide_eq_false h1
      have h2 : fr = d.s := by omega
      have h2' : ((d.s : Int) == (d.s : Int)) = true := by simp
      subst h2
      clear hfr
      go_enter Ybaf.func8, Ybaf.ntmps8
      go_wp2_with fail
      (try simp only [Exit.inBlock, Exit.then]); refine bodyPost_ret (results_none rfl _ _ _) rfl ?_
      exact ⟨rfl, B1.out⟩
end Go.Proofs.YbulkcwpuFmt
