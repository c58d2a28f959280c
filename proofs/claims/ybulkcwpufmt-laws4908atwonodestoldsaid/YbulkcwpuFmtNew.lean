import Derived.Test.YbulkcwpuFmtStart
namespace Go.Proofs.YbulkcwpuFmt
open Go.RowKit Go.Lib
set_option linter.unusedVariables false

def freshSt (d : Nd) : St := { st0 d with out := SO d.n d.f (fun _ => 0) (fun _ => -1) }

theorem q_act {Q : Exit → Act → World → Prop} {w : World} (a' : Act) {a : Act} (e : a = a') (w' : World) (e' : w = w') (h : Q .normal a' w') : Q .normal a w := by subst e; subst e'; exact h

theorem wpAny_act {P : Program} {ops : Array Oper} {Q : Exit → Act → World → Prop} {md : Region.Mode} {fuel : Nat} {l : Array Bool} {w : World} (a' : Act) {a : Act} (e : a = a') (h : wpAny P md ops Q fuel l a' w) : wpAny P md ops Q fuel l a w := e ▸ h

set_option maxRecDepth 20000 in
set_option maxHeartbeats 1600000 in
theorem new_any (n s f : Nat) (inp : Int) (w : World) (hn : n ≤ 6) (hn1 : 1 ≤ n) (hf : f < n) (hs : s < n) (hi : inp = 0 ∨ inp = 1) (R : Nd → St)
    (htake : ∀ d w', Apart d w.heap.size → d.n = n → d.s = s → d.f = f → d.inp = inp → Mem d w' (freshSt d) → Calls Ybaf.prog 17 #[.pointer (some ⟨d.C, 0, none⟩), .agg #[.int .i64 d.s, .int .i64 d.inp, .int .i64 0]] w' fun e w'' => e = .returned (.tuple #[]) ∧ Fr (Own d) w' w'' ∧ Mem d w'' (R d)) :
    Calls Ybaf.prog 5 #[.int .i64 s, .int .i64 n, .int .i64 f, .int .i64 inp] w fun e w' => ∃ d, e = .returned (.pointer (some ⟨d.C, 0, none⟩)) ∧ Apart d w.heap.size ∧ d.n = n ∧ d.s = s ∧ d.f = f ∧ d.inp = inp ∧ Below w.heap.size w w' ∧ Mem d w' (R d) := by
  have HT0 : Hid (∀ d w', Apart d w.heap.size → d.n = n → d.s = s → d.f = f → d.inp = inp → Mem d w' (freshSt d) → Calls Ybaf.prog 17 #[.pointer (some ⟨d.C, 0, none⟩), .agg #[.int .i64 d.s, .int .i64 d.inp, .int .i64 0]] w' fun e w'' => e = .returned (.tuple #[]) ∧ Fr (Own d) w' w'' ∧ Mem d w'' (R d)) := htake
  clear htake
  have hb : decide (inp = 0 ∨ inp = 1) = true := by simpa using hi
  have hin := hi
  clear hi
  go_enter Ybaf.func5, Ybaf.ntmps5
  have d1 : decide ((s : Int) < 0) = false := by simp
  have d2 : decide (n ≤ s) = false := by simpa using hs
  have d3 : decide ((f : Int) < 0) = false := by simp
  go_wp2_with fail
  refine (binary_any _ _).mono ?_
  rintro e wx ⟨rfl, hwx⟩
  rw [hwx]
  clear hwx wx
  go_wp2_with fail
  refine wp_region_any (by kernel_rfl) ?_
  change wpAny _ _ _ _ _ _ _ (World.drew _)
  refine lit_region ?_ (fun _ _ _ _ _ h => h) _ n (.int .i64 s) (.int .i64 f) (.int .i64 inp) _ (by kernel_rfl) (by kernel_rfl) (by kernel_rfl) (by kernel_rfl) (by kernel_rfl) (by kernel_rfl) (run6 n hn) ?_
  · refine ⟨by kernel_rfl, by kernel_rfl, by kernel_rfl, by kernel_rfl, by kernel_rfl, by kernel_rfl, by kernel_rfl, by kernel_rfl, by kernel_rfl, by kernel_rfl, by kernel_rfl, by kernel_rfl, by kernel_rfl, by kernel_rfl, by kernel_rfl, by kernel_rfl, by kernel_rfl, by kernel_rfl, by kernel_rfl, by kernel_rfl, by kernel_rfl, by kernel_rfl, by kernel_rfl, by kernel_rfl, by kernel_rfl, by kernel_rfl, by kernel_rfl, by kernel_rfl, by kernel_rfl, by kernel_rfl, by kernel_rfl, by kernel_rfl, by kernel_rfl, by kernel_rfl, by kernel_rfl, fin6 (by kernel_rfl) (by kernel_rfl) (by kernel_rfl) (by kernel_rfl) (by kernel_rfl) (by kernel_rfl), ?_⟩
    intro b0 b1 b2 b3 b4 b5
    cases b0 <;> cases b1 <;> cases b2 <;> cases b3 <;> cases b4 <;> cases b5 <;> intro h <;> first | (exact absurd h (by decide)) | kernel_rfl
  intro B w1 hI
  refine wpAny_act { tmps := #[.int .i64 s, .int .i64 n, .int .i64 f, .int .i64 inp, undef, undef, undef, undef, .pointer none, undef, undef, undef, undef, undef, .int .i64 s, .bool false, .bool false, .int .i64 s, .int .i64 n, .bool false, .bool false, .bool false, .int .i64 f, .bool false, .bool false, .bool false, .int .i64 inp, .bool true, .bool false, .bool false, undef, undef, undef, undef, undef, undef, undef, undef, undef, undef, undef, .int .i64 s, .int .i64 n, .int .i64 f, .int .i64 inp, .int .i64 inp, .int .i64 n, .slice (some ⟨B 0, 0, none⟩) n n, .int .i64 n, .slice (some ⟨B 1, 0, none⟩) n n, .int .i64 n, .slice (some ⟨B 2, 0, none⟩) n n, .int .i64 n, .slice (some ⟨B 3, 0, none⟩) n n, .int .i64 n, .slice (some ⟨B 4, 0, none⟩) n n, .int .i64 n, .slice (some ⟨B 5, 0, none⟩) n n, undef, undef, undef, undef, undef, undef, undef, undef, undef, undef, undef, undef, undef, undef, undef, undef, undef, undef, undef, undef, undef, undef, undef, undef, undef, undef, undef, undef, undef, undef, undef, undef, undef, undef, undef, undef, undef, undef, undef, undef, undef, undef, undef, undef, undef, undef, undef, undef, undef, undef, undef, undef, undef, undef, undef, undef, undef, undef, undef, undef, undef, undef, undef, undef, undef, undef, undef, undef, undef, undef, undef, undef, undef], defers := [] } (by kernel_rfl) ?_
  refine wpAny_take (i := 17) (v := ?_) rfl (by kernel_rfl) (by kernel_rfl) (by kernel_rfl) (fun _ _ _ h => h) (Or.inl ⟨by rfl, ?_⟩) ?_
  rotate_left
  · intro w; go_simp; with_reducible rfl
  refine wpAny_ready (rs := [18]) (by kernel_rfl) (by simp) ?_
  refine AllReady.cons rfl (fun K hK => ?_) AllReady.nil
  go_simp
  refine hK _ _ ?_
  clear hK K
  refine wpAny_take (i := 19) (v := ?_) rfl (by kernel_rfl) (by kernel_rfl) (by kernel_rfl) (fun _ _ _ h => h) (Or.inl ⟨by rfl, ?_⟩) ?_
  rotate_left
  · intro w; go_simp; with_reducible rfl
  refine wpAny_done (by kernel_rfl) ?_ _
  refine q_act { tmps := #[.int .i64 s, .int .i64 n, .int .i64 f, .int .i64 inp, undef, undef, undef, undef, .pointer none, .pointer (some ⟨w1.heap.size, 0, none⟩), undef, undef, undef, undef, .int .i64 s, .bool false, .bool false, .int .i64 s, .int .i64 n, .bool false, .bool false, .bool false, .int .i64 f, .bool false, .bool false, .bool false, .int .i64 inp, .bool true, .bool false, .bool false, undef, undef, undef, undef, undef, undef, undef, undef, undef, undef, undef, .int .i64 s, .int .i64 n, .int .i64 f, .int .i64 inp, .int .i64 inp, .int .i64 n, .slice (some ⟨B 0, 0, none⟩) n n, .int .i64 n, .slice (some ⟨B 1, 0, none⟩) n n, .int .i64 n, .slice (some ⟨B 2, 0, none⟩) n n, .int .i64 n, .slice (some ⟨B 3, 0, none⟩) n n, .int .i64 n, .slice (some ⟨B 4, 0, none⟩) n n, .int .i64 n, .slice (some ⟨B 5, 0, none⟩) n n, .agg #[.int .i64 s, .int .i64 n, .int .i64 f, .int .i64 inp, .int .i64 inp, .int .i64 0, .slice (some ⟨B 0, 0, none⟩) n n, .slice (some ⟨B 1, 0, none⟩) n n, .slice (some ⟨B 2, 0, none⟩) n n, .bool false, .slice (some ⟨B 3, 0, none⟩) n n, .slice (some ⟨B 4, 0, none⟩) n n, .slice (some ⟨B 5, 0, none⟩) n n, .slice none 0 0, .bool false, .int .i64 0], .pointer (some ⟨w1.heap.size, 0, none⟩), undef, undef, undef, undef, undef, undef, undef, undef, undef, undef, undef, undef, undef, undef, undef, undef, undef, undef, undef, undef, undef, undef, undef, undef, undef, undef, undef, undef, undef, undef, undef, undef, undef, undef, undef, undef, undef, undef, undef, undef, undef, undef, undef, undef, undef, undef, undef, undef, undef, undef, undef, undef, undef, undef, undef, undef, undef, undef, undef, undef, undef, undef, undef, undef, undef, undef, undef, undef, undef, undef, undef], defers := [] } (by kernel_rfl) (w1.alloc (.cells (cellsC B n s f inp) 48)) (by kernel_rfl) ?_
  obtain ⟨wC, eC⟩ : ∃ wC, w1.alloc (.cells (cellsC B n s f inp) 48) = wC := ⟨_, rfl⟩
  obtain ⟨wH, eH⟩ : ∃ wH, wC.alloc (.cells (madeCells #[.int .u64 0] (2 * n * 1)) 82) = wH := ⟨_, rfl⟩
  have hmk : (Instr.makeSlice 58 (.int .i64 (2 * (n : Int))) (.int .i64 (2 * (n : Int)))).run Ybaf.prog wC = .ok (.slice (some ⟨wC.heap.size, 0, none⟩) (2 * n) (2 * n)) (wC.alloc (.cells (madeCells #[.int .u64 0] (2 * n * 1)) 82)) := by
    have h := make_any 58 82 (.int .u64 0) 1 8 (2 * n) #[.int .u64 0] Ybaf.underlying58 info82 (by omega) (by omega) rfl wC
    rw [show ((2 * n : Nat) : Int) = 2 * (n : Int) by omega] at h
    exact h
  rw [eH] at hmk
  have R0 := start_raw n s f inp w.drew w1 B hI
  have Ap := start_apart n s f inp w.drew w1 B hI hn hn1 hf hs hin
  rw [eC, eH] at R0
  have hzC : wC.heap.size = w1.heap.size + 1 := by rw [← eC]; simp
  have FH : Below w.heap.size w wH := by
    have q1 : Below w.heap.size w w1 := ⟨hI.below.os, hI.below.tape, hI.below.output, hI.below.size, hI.below.block⟩
    have q2 : Below w.heap.size w wC := eC ▸ q1.alloc q1.size _
    exact eH ▸ q2.alloc q2.size _
  have hd0 := start_done (ndOf w1 B n s f inp)
  obtain ⟨d, hd⟩ : ∃ d, d = ndOf w1 B n s f inp := ⟨_, rfl⟩
  have dC : w1.heap.size = d.C := by rw [hd]; rfl
  have dH : w1.heap.size + 1 = d.H := by rw [hd]; rfl
  have dV : B 0 = d.V := by rw [hd]; rfl
  have dK : B 1 = d.K := by rw [hd]; rfl
  have dU : B 2 = d.U := by rw [hd]; rfl
  have dA : B 3 = d.A := by rw [hd]; rfl
  have dL : B 4 = d.L := by rw [hd]; rfl
  have dT : B 5 = d.T := by rw [hd]; rfl
  have dn : d.n = n := by rw [hd]; rfl
  have ds : d.s = s := by rw [hd]; rfl
  have df : d.f = f := by rw [hd]; rfl
  have di : d.inp = inp := by rw [hd]; rfl
  rw [← hd] at R0 Ap hd0
  simp only [hzC, dH] at hmk
  clear hd hI hzC eH
  rw [eC, dC, dV, dK, dU, dA, dL, dT]
  clear eC dC dV dK dU dA dL dT dH
  have HT : Hid (∀ w', Mem d w' (freshSt d) → Calls Ybaf.prog 17 #[.pointer (some ⟨d.C, 0, none⟩), .agg #[.int .i64 d.s, .int .i64 d.inp, .int .i64 0]] w' fun e w'' => e = .returned (.tuple #[]) ∧ Fr (Own d) w' w'' ∧ Mem d w'' (R d)) := fun w' M => HT0.out d w' Ap dn ds df di M
  clear HT0
  subst dn ds df di
  have HA : Hid (Apart d w.heap.size) := Ap
  have HR : Hid (Raw d wH (fun _ => 0) (fun _ => 0) (fun _ => .int .i64 0) (fT0 d)) := R0
  have HD : Hid (Done d 0 (fun _ => 0) (fun _ => 0) (fun _ => .int .i64 0) (fT0 d)) := hd0
  have HB : Hid (Below w.heap.size w wH) := FH
  clear Ap R0 hd0 FH d1 d2 d3 hb hin
  go_wp2_with fail
  refine (words_any d.n hn hn1 _).mono ?_
  rintro e wx ⟨rfl, hwx⟩
  rw [hwx]
  clear hwx wx
  go_wp2_with fail
  clear hmk
  go_loopw [68, 11] (fun x h wr => ∃ m : Nat, m ≤ d.n ∧ x = .int .i64 m ∧ (m < d.n → h = .slice (some ⟨d.H, m * 2, none⟩) (2 * d.n - m * 2) (2 * d.n - m * 2)) ∧ Below w.heap.size w wr ∧ ∃ fK fU fL fT, Raw d wr fK fU fL fT ∧ Done d m fK fU fL fT) (fun x _ _ => d.n - (intOf x).toNat)
  case atStart => exact ⟨0, Nat.zero_le _, rfl, fun _ => by simp, HB.out, _, _, _, _, HR.out, HD.out⟩
  case round =>
    obtain ⟨m, hm, rfl, hh, hbl, fK, fU, fL, fT, hR, hD⟩ := hrel
    by_cases hlt : m < d.n
    · have hh' := hh hlt
      clear hh
      subst hh'
      obtain ⟨r, hr⟩ : ∃ r, 2 * d.n - m * 2 = r + 2 := ⟨2 * d.n - m * 2 - 2, by omega⟩
      rw [hr]
      have c7 := hR.C.cell 7 (by omega)
      have c8 := hR.C.cell 8 (by omega)
      have k1 := hR.K.cell m hlt
      have k2 := hR.K.free m hlt
      have u1 := hR.U.cell m hlt
      have u2 := hR.U.free m hlt
      obtain ⟨x1, y1⟩ : ∃ x1, wr.drew.setCell ⟨d.K, m, none⟩ (.int .i64 (-1)) = x1 := ⟨_, rfl⟩
      have R1 : Raw d x1 _ _ _ _ := y1 ▸ Raw.setK (w := wr.drew) (hR.drewN 1) HA.out hlt (-1)
      have c81 := R1.C.cell 8 (by omega)
      have u11 := R1.U.cell m hlt
      have u21 := R1.U.free m hlt
      obtain ⟨x2, y2⟩ : ∃ x2, x1.setCell ⟨d.U, m, none⟩ (.int .i64 (-1)) = x2 := ⟨_, rfl⟩
      have R2 : Raw d x2 _ _ _ _ := y2 ▸ R1.setU HA.out hlt (-1)
      have c112 := R2.C.cell 11 (by omega)
      have l2 := R2.L.cell (m * 3) (by omega)
      have lf2 := R2.L.free (m * 3) (by omega)
      obtain ⟨x3, y3⟩ : ∃ x3, x2.setCell ⟨d.L, m * 3, none⟩ (.int .i64 m) = x3 := ⟨_, rfl⟩
      have R3 : Raw d x3 _ _ _ _ := y3 ▸ R2.setL HA.out (p := m * 3) (by omega) (.int .i64 m)
      have l3 := R3.L.cell (m * 3 + 1) (by omega)
      have lf3 := R3.L.free (m * 3 + 1) (by omega)
      obtain ⟨x4, y4⟩ : ∃ x4, x3.setCell ⟨d.L, m * 3 + 1, none⟩ (.int .i64 0) = x4 := ⟨_, rfl⟩
      have R4 : Raw d x4 _ _ _ _ := y4 ▸ R3.setL HA.out (p := m * 3 + 1) (by omega) (.int .i64 0)
      have l4 := R4.L.cell (m * 3 + 2) (by omega)
      have lf4 := R4.L.free (m * 3 + 2) (by omega)
      obtain ⟨x5, y5⟩ : ∃ x5, x4.setCell ⟨d.L, m * 3 + 2, none⟩ (.int .i64 (-1)) = x5 := ⟨_, rfl⟩
      have R5 : Raw d x5 _ _ _ _ := y5 ▸ R4.setL HA.out (p := m * 3 + 2) (by omega) (.int .i64 (-1))
      have c125 := R5.C.cell 12 (by omega)
      have t5 := R5.T.cell (m * 10 + 1) (by omega)
      have tf5 := R5.T.free (m * 10 + 1) (by omega)
      obtain ⟨x6, y6⟩ : ∃ x6, x5.drew.setCell ⟨d.T, m * 10 + 1, none⟩ (.slice (some ⟨d.H, m * 2, none⟩) 1 1) = x6 := ⟨_, rfl⟩
      have R6 : Raw d x6 _ _ _ _ := y6 ▸ Raw.setT (w := x5.drew) (R5.drewN 1) HA.out (p := m * 10 + 1) (by omega) (.slice (some ⟨d.H, m * 2, none⟩) 1 1)
      have c126 := R6.C.cell 12 (by omega)
      have t6 := R6.T.cell (m * 10 + 5 + 1) (by omega)
      have tf6 := R6.T.free (m * 10 + 5 + 1) (by omega)
      obtain ⟨x7, y7⟩ : ∃ x7, x6.drew.setCell ⟨d.T, m * 10 + 5 + 1, none⟩ (.slice (some ⟨d.H, m * 2 + 1, none⟩) 1 1) = x7 := ⟨_, rfl⟩
      have R7 : Raw d x7 _ _ _ _ := y7 ▸ Raw.setT (w := x6.drew) (R6.drewN 1) HA.out (p := m * 10 + 5 + 1) (by omega) (.slice (some ⟨d.H, m * 2 + 1, none⟩) 1 1)
      have B7 : Below w.heap.size w x7 := by
        have hg := HA.out.ge
        rw [← y7, ← y6, ← y5, ← y4, ← y3, ← y2, ← y1]
        exact ((((((hbl.drew.setCell (by show _ ≤ d.K; omega) _).setCell (by show _ ≤ d.U; omega) _).setCell (by show _ ≤ d.L; omega) _).setCell (by show _ ≤ d.L; omega) _).setCell (by show _ ≤ d.L; omega) _).drew.setCell (by show _ ≤ d.T; omega) _).drew.setCell (by show _ ≤ d.T; omega) _
      have D7 := hD.step
      simp only [cC, slc] at c7 c8 c81 c112 c125 c126
      have H7 : Hid (Below w.heap.size w x7 ∧ ∃ fK fU fL fT, Raw d x7 fK fU fL fT ∧ Done d (m + 1) fK fU fL fT) := ⟨B7, _, _, _, _, R7, D7⟩
      clear hR hD R1 R2 R3 R4 R5 R6 R7 B7 D7 hbl
      rcases Nat.eq_zero_or_pos r with h0 | h0
      · subst h0
        go_wp2_with fail
        go_region
        go_wp2_with fail
        refine wp_loop_rounds 3 ?_
        rw [rounds_succ]
        go_wp2_with fail
        go_region
        go_wp2_with fail
        rw [rounds_succ]
        go_wp2_with fail
        go_region
        go_wp2_with fail
        rw [rounds_succ]
        go_wp2_with fail
        go_roundw
        case rel => exact ⟨m + 1, by omega, by go_num, fun hl => by exfalso; omega, H7.out.1, H7.out.2⟩
        case measure => simp [intOf]; omega
      · obtain ⟨r', rfl⟩ : ∃ r', r = r' + 1 := ⟨r - 1, by omega⟩
        go_wp2_with fail
        go_region
        go_wp2_with fail
        refine wp_loop_rounds 3 ?_
        rw [rounds_succ]
        go_wp2_with fail
        go_region
        go_wp2_with fail
        rw [rounds_succ]
        go_wp2_with fail
        go_region
        go_wp2_with fail
        rw [rounds_succ]
        go_wp2_with fail
        go_roundw
        case rel => exact ⟨m + 1, by omega, by go_num, fun hl => by rw [show 2 * d.n - (m + 1) * 2 = r' + 1 by omega, show (m + 1) * 2 = m * 2 + 1 + 1 by omega], H7.out.1, H7.out.2⟩
        case measure => simp [intOf]; omega
    · obtain rfl : m = d.n := by omega
      have M := hR.mem hD
      have c6 := M.C.cell 6 (by omega)
      have c7 := M.C.cell 7 (by omega)
      simp only [cC, slc] at c6 c7
      have SO2 := M.so HA.out
      have HBL : Hid (Below w.heap.size w wr) := hbl
      clear hR hD hbl hh M
      go_wp2_with fail
      go_region_with (go_at_call 16; refine SO2.mono ?_; rintro e w3 ⟨rfl, hc, hf3, hM3⟩)
      all_goals
        (have HM3 : Hid (Mem d _ (freshSt d)) := hM3.out.2
         have HF3 := hM3.out.1
         go_wp2_with fail
         refine (HT.out _ HM3.out).mono ?_
         rintro e w4 ⟨rfl, F4, M4⟩
         go_wp2_with fail
         go_ret
         exact ⟨d, rfl, HA.out, rfl, rfl, rfl, rfl, HBL.out.trans ((HF3.trans F4).below HBL.out.size (fun k hk => HA.out.not_own hk)), M4⟩)
end Go.Proofs.YbulkcwpuFmt
