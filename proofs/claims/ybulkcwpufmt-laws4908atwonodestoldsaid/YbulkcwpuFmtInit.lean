import Derived.Test.YbulkcwpuFmtAdvance
import Derived.Test.YbulkcwpuFmtRecount
namespace Go.Proofs.YbulkcwpuFmt
open Go.RowKit Go.Lib
set_option linter.unusedVariables false

set_option maxRecDepth 20000 in
set_option maxHeartbeats 800000 in
theorem binary_any (v : Int) (w : World) : Calls Ybaf.prog 13 #[.int .i64 v] w fun e w' => e = .returned (.bool (decide (v = 0 ∨ v = 1))) ∧ w' = w := by
  by_cases h0 : v = 0
  · have h0' : (v == 0) = true := by simpa using h0
    have hd : Hid (decide (v = 0 ∨ v = 1) = true) := by show _ = _; simp [h0]
    clear h0
    go_enter Ybaf.func13, Ybaf.ntmps13
    go_wp2_with fail
    go_ret
    exact ⟨by rw [hd.out]; rfl, rfl⟩
  · have h0' : (v == 0) = false := by simpa using h0
    by_cases h1 : v = 1
    · have h1' : (v == 1) = true := by simpa using h1
      have hd : Hid (decide (v = 0 ∨ v = 1) = true) := by show _ = _; simp [h1]
      clear h0 h1
      go_enter Ybaf.func13, Ybaf.ntmps13
      go_wp2_with fail
      go_ret
      exact ⟨by rw [hd.out]; rfl, rfl⟩
    · have h1' : (v == 1) = false := by simpa using h1
      have hd : Hid (decide (v = 0 ∨ v = 1) = false) := by show _ = _; simp [h0, h1]
      clear h0 h1
      go_enter Ybaf.func13, Ybaf.ntmps13
      go_wp2_with fail
      go_ret
      exact ⟨by rw [hd.out]; rfl, rfl⟩

/-- The init that a fresh tally takes: the node holds none of it and vouches for nothing. -/
def initSt (st : St) (j : Nat) (x k : Int) : St := { st with lval := up st.lval j x, lctr := up st.lctr j k, vch := up st.vch j k }

set_option maxRecDepth 20000 in
set_option maxHeartbeats 1600000 in
theorem takeInit_no (d : Nd) (base : Nat) (ha : Apart d base) (j : Nat) (x k : Int) (st : St) (w : World) (hj : j < d.n) (hM : Mem d w st) (hc : st.ctrs j = -1) (hno : k < 0 ∨ ¬ (x = 0 ∨ x = 1)) :
    Calls Ybaf.prog 17 #[.pointer (some ⟨d.C, 0, none⟩), .agg #[.int .i64 j, .int .i64 x, .int .i64 k]] w fun e w' => e = .returned (.tuple #[]) ∧ Fr (Own d) w w' ∧ Mem d w' st := by
  obtain ⟨wa, ea⟩ : ∃ wa, w.alloc (.cells #[.int .i64 j, .int .i64 x, .int .i64 k] 31) = wa := ⟨_, rfl⟩
  have Ma : Mem d wa st := ea ▸ hM.alloc _
  have Fa : Fr (Own d) w wa := ea ▸ (Fr.refl _ _).alloc _
  have n0 : wa.cell? ⟨w.heap.size, 0, none⟩ = some (.int .i64 j) := by rw [← ea, World.cell?_alloc_at _ _ _ _ rfl]; rfl
  have n1 : wa.cell? ⟨w.heap.size, 1, none⟩ = some (.int .i64 x) := by rw [← ea, World.cell?_alloc_at _ _ _ _ rfl]; rfl
  have n2 : wa.cell? ⟨w.heap.size, 2, none⟩ = some (.int .i64 k) := by rw [← ea, World.cell?_alloc_at _ _ _ _ rfl]; rfl
  have c7 := Ma.C.cell 7 (by omega)
  have ck := Ma.K.cell j hj
  rw [hc] at ck
  simp only [cC, slc] at c7
  have HM : Hid (∀ q, Mem d (wa.drewN q) st) := fun q => Ma.drewN q
  have HF : Hid (∀ q, Fr (Own d) w (wa.drewN q)) := fun q => Fa.drewN
  clear hM ha Ma Fa
  by_cases hk : k < 0
  · clear hno
    go_enter Ybaf.func17, Ybaf.ntmps17
    go_wp2_with fail
    go_quiet (fail)
    go_wp2_with fail
    (try simp only [Exit.inBlock, Exit.then]); refine bodyPost_ret (results_none rfl _ _ _) rfl ?_
    exact ⟨rfl, HF.out _, HM.out _⟩
  · have hk' : 0 ≤ k := by omega
    have hb : decide (x = 0 ∨ x = 1) = false := decide_eq_false (hno.resolve_left hk)
    clear hno
    go_enter Ybaf.func17, Ybaf.ntmps17
    go_wp2_with fail
    go_quiet (fail)
    go_wp2_with fail
    refine (binary_any _ _).mono ?_
    rintro e w' ⟨rfl, rfl⟩
    go_wp2_with fail
    (try simp only [Exit.inBlock, Exit.then]); refine bodyPost_ret (results_none rfl _ _ _) rfl ?_
    exact ⟨rfl, HF.out _, HM.out _⟩

set_option maxRecDepth 20000 in
set_option maxHeartbeats 1600000 in
theorem takeInit_yes (d : Nd) (base : Nat) (ha : Apart d base) (j : Nat) (x k : Int) (st R : St) (w : World) (hj : j < d.n) (hM : Mem d w st) (hc : st.ctrs j = -1) (hl : st.lctr j = -1) (hv : st.vch j = -1) (hk : 0 ≤ k) (hx : x = 0 ∨ x = 1)
    (hrec : ∀ w', Fr (Own d) w w' → Mem d w' (initSt st j x k) → Calls Ybaf.prog 19 #[.pointer (some ⟨d.C, 0, none⟩), .int .i64 j] w' fun e w'' => e = .returned (.tuple #[]) ∧ Fr (Own d) w' w'' ∧ Mem d w'' R) :
    Calls Ybaf.prog 17 #[.pointer (some ⟨d.C, 0, none⟩), .agg #[.int .i64 j, .int .i64 x, .int .i64 k]] w fun e w' => e = .returned (.tuple #[]) ∧ Fr (Own d) w w' ∧ Mem d w' R := by
  obtain ⟨wa, ea⟩ : ∃ wa, w.alloc (.cells #[.int .i64 j, .int .i64 x, .int .i64 k] 31) = wa := ⟨_, rfl⟩
  have Ma : Mem d wa st := ea ▸ hM.alloc _
  have Fa : Fr (Own d) w wa := ea ▸ (Fr.refl _ _).alloc _
  have n0 : wa.cell? ⟨w.heap.size, 0, none⟩ = some (.int .i64 j) := by rw [← ea, World.cell?_alloc_at _ _ _ _ rfl]; rfl
  have n1 : wa.cell? ⟨w.heap.size, 1, none⟩ = some (.int .i64 x) := by rw [← ea, World.cell?_alloc_at _ _ _ _ rfl]; rfl
  have n2 : wa.cell? ⟨w.heap.size, 2, none⟩ = some (.int .i64 k) := by rw [← ea, World.cell?_alloc_at _ _ _ _ rfl]; rfl
  have c7 := Ma.C.cell 7 (by omega)
  have ck := Ma.K.cell j hj
  rw [hc] at ck
  have c11 := Ma.C.cell 11 (by omega)
  obtain ⟨l0, l1, l2⟩ := Ma.lcell hj
  obtain ⟨g0, g1, g2⟩ := Ma.lfree hj
  rw [hl] at l2
  simp only [cC, slc] at c7 c11
  have hb : decide (x = 0 ∨ x = 1) = true := decide_eq_true hx
  have hk1 : (k == -1) = false := by simp; omega
  have hk2 : (-1 : Int) < k := by omega
  have HA : Hid (Apart d base) := ha
  have HM : Hid (Mem d wa st) := Ma
  have HF : Hid (Fr (Own d) w wa) := Fa
  have HR : Hid (∀ w', Fr (Own d) w w' → Mem d w' (initSt st j x k) → Calls Ybaf.prog 19 #[.pointer (some ⟨d.C, 0, none⟩), .int .i64 j] w' fun e w'' => e = .returned (.tuple #[]) ∧ Fr (Own d) w' w'' ∧ Mem d w'' R) := hrec
  clear hM ha Ma Fa hrec hx
  go_enter Ybaf.func17, Ybaf.ntmps17
  go_wp2_with fail
  go_quiet (fail)
  go_wp2_with fail
  refine (binary_any _ _).mono ?_
  rintro e w' ⟨rfl, rfl⟩
  go_wp2_with fail
  obtain ⟨x1, y1⟩ : ∃ x1, (wa.drewN (nq + 1)).setCell ⟨d.L, j * 3, none⟩ (.int .i64 j) = x1 := ⟨_, rfl⟩
  have M1 : Mem d x1 st := y1 ▸ (HM.out.drewN (nq + 1)).setLnode HA.out hj
  obtain ⟨x2, y2⟩ : ∃ x2, x1.setCell ⟨d.L, j * 3 + 1, none⟩ (.int .i64 x) = x2 := ⟨_, rfl⟩
  have M2 : Mem d x2 { st with lval := up st.lval j x } := y2 ▸ M1.setLval HA.out hj x
  obtain ⟨x3, y3⟩ : ∃ x3, x2.setCell ⟨d.L, j * 3 + 2, none⟩ (.int .i64 k) = x3 := ⟨_, rfl⟩
  have M3 : Mem d x3 { st with lval := up st.lval j x, lctr := up st.lctr j k } := y3 ▸ M2.setLctr HA.out hj k
  have F3 : Fr (Own d) w x3 := by
    have own : Own d d.L := by simp [Own]
    rw [← y3, ← y2, ← y1]
    exact ((Fr.setCell (HF.out.drewN (q := nq + 1)) (.inl own) _).setCell (.inl own) _).setCell (.inl own) _
  have l1' := (M1.lcell hj).2.1
  have g1' := (M1.lfree hj).2.1
  have l2' := (M2.lcell hj).2.2
  have g2' := (M2.lfree hj).2.2
  have c8 := M3.C.cell 8 (by omega)
  have cu := M3.U.cell j hj
  simp only [cC, slc] at c8
  change x3.cell? _ = some (.int .i64 (st.vch j)) at cu
  rw [hv] at cu
  have HM3 : Hid (Mem d x3 { st with lval := up st.lval j x, lctr := up st.lctr j k }) := M3
  have HF3 : Hid (Fr (Own d) w x3) := F3
  clear M1 M2 M3 F3
  go_region
  go_wp2_with fail
  refine (setVouch_any d base HA.out j k _ x3 hj HM3.out).mono ?_
  rintro e w4 ⟨rfl, F4, M4⟩
  have HM4 : Hid (Mem d w4 (initSt st j x k)) := M4
  have HF4 : Hid (Fr (Own d) w w4) := HF3.out.trans F4
  clear M4 F4
  go_wp2_with fail
  refine (HR.out _ HF4.out HM4.out).mono ?_
  rintro e w5 ⟨rfl, F5, M5⟩
  go_wp2_with fail
  go_end0
  exact ⟨rfl, HF4.out.trans F5, M5⟩
end Go.Proofs.YbulkcwpuFmt
