import Derived.Test.YbulkcwpuFmtEcho
import Derived.Test.YbulkcwpuFmtTally
namespace Go.Proofs.YbulkcwpuFmt
open Go.RowKit Go.Lib
set_option linter.unusedVariables false

def set2 {α : Type} (g : Nat → Nat → α) (j : Nat) (x : α) : Nat → Nat → α := up2 (up2 g j 0 x) j 1 x
def resetSt (st : St) (j : Nat) (k : Int) : St :=
  { st with ctrs := up st.ctrs j k, vals := up st.vals j 0, few := up st.few j nilS, hrd := set2 st.hrd j 0, ini := set2 st.ini j false, ech := set2 st.ech j 0, ecg := set2 st.ecg j false, cfm := set2 st.cfm j false, stale := true }

theorem clear_word (H p : Nat) (w : World) (h : Int) (c : w.cell? ⟨H, p, none⟩ = some (.int .u64 h)) (f : w.frozen? ⟨H, p, none⟩ = false) :
    ∀ ty, (Builtin.clear_ #[58] ty #[.slice (some ⟨H, p, none⟩) 1 1]).run Ybaf.prog w = .ok (.tuple #[]) (w.setCell ⟨H, p, none⟩ (.int .u64 0)) := by
  intro ty
  refine Lib.run_clear_slice w 58 82 ty (.int .u64 0) Ybaf.underlying58 (fun w => by kernel_rfl) rfl rfl H p 1 1 (by omega) ?_ ?_
  · intro i hi
    have : i = 0 := by omega
    subst this
    simp [c]
  · intro i hi
    have : i = 0 := by omega
    subst this
    simpa using f

def resetRec (st : St) (j v : Nat) : St := { st with ini := up2 st.ini j v false, ech := up2 st.ech j v 0, ecg := up2 st.ecg j v false, cfm := up2 st.cfm j v false }

theorem reset_rec {d : Nd} {base : Nat} {w : World} {st : St} (hM : Mem d w st) (ha : Apart d base) {j v : Nat} (hj : j < d.n) (hv : v < 2) :
    ∃ w1 w2 w3 w4 w5, w.setCell ⟨d.T, j * 10 + v * 5, none⟩ (.bool false) = w1 ∧ w1.setCell ⟨d.T, j * 10 + v * 5 + 1, none⟩ (.slice (some ⟨d.H, j * 2 + v, none⟩) 1 1) = w2 ∧
      w2.setCell ⟨d.T, j * 10 + v * 5 + 2, none⟩ (.int .i64 0) = w3 ∧ w3.setCell ⟨d.T, j * 10 + v * 5 + 3, none⟩ (.bool false) = w4 ∧ w4.setCell ⟨d.T, j * 10 + v * 5 + 4, none⟩ (.bool false) = w5 ∧
      (w.cell? ⟨d.T, j * 10 + v * 5, none⟩ = some (.bool (st.ini j v)) ∧ w1.cell? ⟨d.T, j * 10 + v * 5 + 1, none⟩ = some (.slice (some ⟨d.H, j * 2 + v, none⟩) 1 1) ∧ w2.cell? ⟨d.T, j * 10 + v * 5 + 2, none⟩ = some (.int .i64 (st.ech j v)) ∧
        w3.cell? ⟨d.T, j * 10 + v * 5 + 3, none⟩ = some (.bool (st.ecg j v)) ∧ w4.cell? ⟨d.T, j * 10 + v * 5 + 4, none⟩ = some (.bool (st.cfm j v))) ∧
      (w.frozen? ⟨d.T, j * 10 + v * 5, none⟩ = false ∧ w1.frozen? ⟨d.T, j * 10 + v * 5 + 1, none⟩ = false ∧ w2.frozen? ⟨d.T, j * 10 + v * 5 + 2, none⟩ = false ∧
        w3.frozen? ⟨d.T, j * 10 + v * 5 + 3, none⟩ = false ∧ w4.frozen? ⟨d.T, j * 10 + v * 5 + 4, none⟩ = false) ∧
      Fr (Own d) w w5 ∧ Mem d w5 (resetRec st j v) := by
  have M1 := hM.setIni ha hj hv false
  have M2 := M1.setHeard ha hj hv
  have M3 := M2.setEch ha hj hv 0
  have M4 := M3.setEcg ha hj hv false
  have M5 := M4.setCfm ha hj hv false
  have own : Own d d.T := by simp [Own]
  exact ⟨_, _, _, _, _, rfl, rfl, rfl, rfl, rfl, ⟨hM.tcell (k := 0) hj hv (by omega), M1.tcell (k := 1) hj hv (by omega), M2.tcell (k := 2) hj hv (by omega), M3.tcell (k := 3) hj hv (by omega), M4.tcell (k := 4) hj hv (by omega)⟩,
    ⟨hM.tfree (k := 0) hj hv (by omega), M1.tfree (k := 1) hj hv (by omega), M2.tfree (k := 2) hj hv (by omega), M3.tfree (k := 3) hj hv (by omega), M4.tfree (k := 4) hj hv (by omega)⟩,
    (((((Fr.refl _ w).setCell (.inl own) _).setCell (.inl own) _).setCell (.inl own) _).setCell (.inl own) _).setCell (.inl own) _, M5⟩

def lowSt (st : St) (j : Nat) (k : Int) : St := { resetSt st j k with lctr := up st.lctr j (-1) }
theorem low_ech (st : St) (j : Nat) (k : Int) (v : Nat) (hv : v < 2) : (lowSt st j k).ech j v = 0 := by
  have h2 : v = 0 ∨ v = 1 := by omega
  rcases h2 with rfl | rfl <;> simp [lowSt, resetSt, set2, up2]
def advMid (d : Nd) (st : St) (j : Nat) (k : Int) : St :=
  if st.lctr j ≤ k then (if st.lctr j = k then takeAtP d (lowSt st j k) j (st.lval j).toNat else lowSt st j k) else resetSt st j k
def advanceP (d : Nd) (st : St) (j : Nat) (k : Int) : St := { advMid d st j k with out := SO d.n d.f (advMid d st j k).vals (advMid d st j k).ctrs }

theorem Mem.lcell {d : Nd} {w : World} {st : St} (h : Mem d w st) {j : Nat} (hj : j < d.n) :
    w.cell? ⟨d.L, j * 3, none⟩ = some (.int .i64 j) ∧ w.cell? ⟨d.L, j * 3 + 1, none⟩ = some (.int .i64 (st.lval j)) ∧ w.cell? ⟨d.L, j * 3 + 2, none⟩ = some (.int .i64 (st.lctr j)) := by
  have a := h.L.cell (j * 3) (by omega)
  have b := h.L.cell (j * 3 + 1) (by omega)
  have c := h.L.cell (j * 3 + 2) (by omega)
  rw [cL, if_pos (by omega), Nat.mul_div_cancel j (by omega : 0 < 3)] at a
  rw [cL, if_neg (by omega), if_pos (by omega), show (j * 3 + 1) / 3 = j by omega] at b
  rw [cL, if_neg (by omega), if_neg (by omega), show (j * 3 + 2) / 3 = j by omega] at c
  exact ⟨a, b, c⟩
theorem Mem.lfree {d : Nd} {w : World} {st : St} (h : Mem d w st) {j : Nat} (hj : j < d.n) :
    w.frozen? ⟨d.L, j * 3, none⟩ = false ∧ w.frozen? ⟨d.L, j * 3 + 1, none⟩ = false ∧ w.frozen? ⟨d.L, j * 3 + 2, none⟩ = false := ⟨h.L.free _ (by omega), h.L.free _ (by omega), h.L.free _ (by omega)⟩
theorem Mem.alloc {d : Nd} {w : World} {st : St} (h : Mem d w st) (o : Obj) : Mem d (w.alloc o) st := h.fr ((Fr.refl (fun _ => False) w).alloc o) (fun _ _ h => h)

set_option maxRecDepth 20000 in
set_option maxHeartbeats 4000000 in
theorem advance_any (d : Nd) (base : Nat) (ha : Apart d base) (j : Nat) (k : Int) (st : St) (w : World) (hj : j < d.n) (hM : Mem d w st)
    (hdrop : ∀ w' st', Fr (Own d) w w' → Mem d w' st' → st'.few = st.few → Calls Ybaf.prog 38 #[.pointer (some ⟨d.A, j * 2, none⟩), .int .i64 k] w' fun e w'' => e = .returned (.tuple #[]) ∧ Fr (Own d) w' w'' ∧ Mem d w'' { st' with few := up st'.few j nilS })
    (hlv : st.lctr j = k → st.lval j = 0 ∨ st.lval j = 1) :
    Calls Ybaf.prog 30 #[.pointer (some ⟨d.C, 0, none⟩), .int .i64 j, .int .i64 k] w fun e w' => e = .returned (.tuple #[]) ∧ Fr (Own d) w w' ∧ Mem d w' (advanceP d st j k) := by
  have c6 := hM.C.cell 6 (by omega)
  have c7 := hM.C.cell 7 (by omega)
  have ck := hM.K.cell j hj
  have cv := hM.V.cell j hj
  have fk := hM.K.free j hj
  have fv := hM.V.free j hj
  obtain ⟨w1, e1⟩ : ∃ w1, w.drew.setCell ⟨d.K, j, none⟩ (.int .i64 k) = w1 := ⟨_, rfl⟩
  have M1 : Mem d w1 { st with ctrs := up st.ctrs j k } := e1 ▸ Mem.setK (w := w.drew) (hM.drewN 1) ha hj _
  have F1 : Fr (Own d) w w1 := e1 ▸ Fr.setCell (Fr.refl (Own d) w).drew (.inl (by simp [Own])) _
  have c61 := M1.C.cell 6 (by omega)
  have cv1 := M1.V.cell j hj
  have fv1 := M1.V.free j hj
  obtain ⟨w2, e2⟩ : ∃ w2, w1.setCell ⟨d.V, j, none⟩ (.int .i64 0) = w2 := ⟨_, rfl⟩
  have M2 : Mem d w2 { st with ctrs := up st.ctrs j k, vals := up st.vals j 0 } := e2 ▸ M1.setV ha hj _
  have F2 : Fr (Own d) w w2 := e2 ▸ F1.setCell (.inl (by simp [Own])) _
  have c10 := M2.C.cell 10 (by omega)
  simp only [cC, slc] at c6 c7 c61 c10
  have HD := hdrop w2 _ F2 M2 rfl
  clear hdrop hM M1 F1
  go_enter Ybaf.func30, Ybaf.ntmps30
  go_wp2_with fail
  go_region
  go_wp2_with fail
  refine HD.mono ?_
  rintro e w3 ⟨rfl, F3, M3⟩
  have cT := M3.C.cell 12 (by omega)
  have h0 := M3.tcell (v := 0) (k := 1) hj (by omega) (by omega)
  have hh := M3.hcell (v := 0) hj (by omega)
  have hf := M3.hfree (v := 0) hj (by omega)
  simp only [cC, slc, rec5, Nat.zero_mul, Nat.add_zero] at cT h0 hh hf
  have hcl := clear_word d.H (j * 2) w3 _ hh hf
  obtain ⟨w4, e4⟩ : ∃ w4, w3.setCell ⟨d.H, j * 2, none⟩ (.int .u64 0) = w4 := ⟨_, rfl⟩
  have M4 := M3.setHrd (v := 0) ha hj (by omega) 0
  rw [Nat.add_zero, e4] at M4
  have cT4 := M4.C.cell 12 (by omega)
  have h04 := M4.tcell (v := 0) (k := 1) hj (by omega) (by omega)
  simp only [cC, slc, rec5, Nat.zero_mul, Nat.add_zero] at cT4 h04
  rw [e4] at hcl
  obtain ⟨x1, x2, x3, x4, w5, y1, y2, y3, y4, y5, ⟨z1, z2, z3, z4, z5⟩, ⟨u1, u2, u3, u4, u5⟩, F5, M5⟩ := reset_rec (v := 0) M4 ha hj (by omega)
  have cT5 := M5.C.cell 12 (by omega)
  have h15 := M5.tcell (v := 1) (k := 1) hj (by omega) (by omega)
  have hh5 := M5.hcell (v := 1) hj (by omega)
  have hf5 := M5.hfree (v := 1) hj (by omega)
  have hcl5 := clear_word d.H (j * 2 + 1) w5 _ hh5 hf5
  obtain ⟨w6, e6⟩ : ∃ w6, w5.setCell ⟨d.H, j * 2 + 1, none⟩ (.int .u64 0) = w6 := ⟨_, rfl⟩
  have M6 := M5.setHrd (v := 1) ha hj (by omega) 0
  rw [e6] at M6
  have cT6 := M6.C.cell 12 (by omega)
  have h16 := M6.tcell (v := 1) (k := 1) hj (by omega) (by omega)
  rw [e6] at hcl5
  obtain ⟨x6, x7, x8, x9, w7, y6, y7, y8, y9, y10, ⟨z6, z7, z8, z9, z10⟩, ⟨u6, u7, u8, u9, u10⟩, F7, M7⟩ := reset_rec (v := 1) M6 ha hj (by omega)
  have c14 := M7.C.cell 14 (by omega)
  have f14 := M7.C.free 14 (by omega)
  obtain ⟨w8, e8⟩ : ∃ w8, w7.setCell ⟨d.C, 14, none⟩ (.bool true) = w8 := ⟨_, rfl⟩
  have M8 : Mem d w8 (resetSt st j k) := e8 ▸ M7.setStale ha true
  simp only [cC, slc, rec5, Nat.zero_mul, Nat.add_zero, Nat.one_mul] at cT5 h15 cT6 h16 y1 y2 y3 y4 y5 y6 y7 y8 y9 y10 z1 z2 z3 z4 z5 z6 z7 z8 z9 z10 u1 u2 u3 u4 u5 u6 u7 u8 u9 u10 c14
  have F8 : Fr (Own d) w w8 := by
    have q4 : Fr (Own d) w3 w4 := e4 ▸ (Fr.refl _ _).setCell (.inl (by simp [Own])) _
    have q6 : Fr (Own d) w5 w6 := e6 ▸ (Fr.refl _ _).setCell (.inl (by simp [Own])) _
    have q8 : Fr (Own d) w7 w8 := e8 ▸ (Fr.refl _ _).setCell (.inl (by simp [Own])) _
    exact (((((F2.trans F3).trans q4).trans F5).trans q6).trans F7).trans q8
  have c118 := M8.C.cell 11 (by omega)
  have l8 := (M8.lcell hj).1
  have l8' : w8.cell? ⟨d.L, j * 3 + 1, none⟩ = some (.int .i64 (st.lval j)) := (M8.lcell hj).2.1
  have l8'' : w8.cell? ⟨d.L, j * 3 + 2, none⟩ = some (.int .i64 (st.lctr j)) := (M8.lcell hj).2.2
  obtain ⟨wa, ea⟩ : ∃ wa, w8.alloc (.cells #[.int .i64 j, .int .i64 (st.lval j), .int .i64 (st.lctr j)] 31) = wa := ⟨_, rfl⟩
  have Ma : Mem d wa (resetSt st j k) := ea ▸ M8.alloc _
  have Fa : Fr (Own d) w wa := ea ▸ F8.alloc _
  have n1 : wa.cell? ⟨w8.heap.size, 1, none⟩ = some (.int .i64 (st.lval j)) := by rw [← ea, World.cell?_alloc_at _ _ _ _ rfl]; rfl
  have n2 : wa.cell? ⟨w8.heap.size, 2, none⟩ = some (.int .i64 (st.lctr j)) := by rw [← ea, World.cell?_alloc_at _ _ _ _ rfl]; rfl
  have ca11 := Ma.C.cell 11 (by omega)
  have ca6 := Ma.C.cell 6 (by omega)
  have ca7 := Ma.C.cell 7 (by omega)
  have ca2 := Ma.C.cell 2 (by omega)
  have la : wa.cell? ⟨d.L, j * 3 + 2, none⟩ = some (.int .i64 (st.lctr j)) := (Ma.lcell hj).2.2
  have lfa := (Ma.lfree hj).2.2
  obtain ⟨w9, e9⟩ : ∃ w9, wa.setCell ⟨d.L, j * 3 + 2, none⟩ (.int .i64 (-1)) = w9 := ⟨_, rfl⟩
  have M9 : Mem d w9 (lowSt st j k) := e9 ▸ Ma.setLctr ha hj _
  have F9 : Fr (Own d) w w9 := e9 ▸ Fa.setCell (.inl (by simp [Own])) _
  have hne : w8.heap.size ≠ d.L := by have := M8.lt; omega
  have n19 : w9.cell? ⟨w8.heap.size, 1, none⟩ = some (.int .i64 (st.lval j)) := by rw [← e9, World.cell?_setCell_other _ _ _ _ (fun h => hne (congrArg Addr.block h).symm)]; exact n1
  have n29 : w9.cell? ⟨w8.heap.size, 2, none⟩ = some (.int .i64 (st.lctr j)) := by rw [← e9, World.cell?_setCell_other _ _ _ _ (fun h => hne (congrArg Addr.block h).symm)]; exact n2
  have c69 := M9.C.cell 6 (by omega)
  have c79 := M9.C.cell 7 (by omega)
  have c29 := M9.C.cell 2 (by omega)
  simp only [cC, slc] at c118 ca11 ca6 ca7 ca2 c69 c79 c29
  have HM9 : Hid (Mem d w9 (lowSt st j k)) := M9
  have HFa : Hid (Fr (Own d) w wa) := Fa
  have HF9 : Hid (Fr (Own d) w w9) := F9
  have HA : Hid (Apart d base) := ha
  have HP : Hid (advMid d st j k = if st.lctr j ≤ k then (if st.lctr j = k then takeAtP d (lowSt st j k) j (st.lval j).toNat else lowSt st j k) else resetSt st j k) := rfl
  have SOa := Ma.so ha
  have SO9 := M9.so ha
  clear hne Ma Fa
  clear M2 F2 M3 M4 M5 M6 M7 M8 F3 F5 F7 F8 M9 F9 ha
  go_wp2_with fail
  refine wp_loop_rounds 3 ?_
  rw [rounds_succ]
  go_wp2_with (simp only [hcl])
  rw [rounds_succ]
  go_wp2_with (simp only [hcl5])
  rw [rounds_succ]
  clear c6 c7 ck cv fk fv e1 c61 cv1 fv1 e2 c10 HD cT h0 hh hf hcl e4 cT4 h04 y1 y2 y3 y4 y5 y6 y7 y8 y9 y10 z1 z2 z3 z4 z5 z6 z7 z8 z9 z10 u1 u2 u3 u4 u5 u6 u7 u8 u9 u10 cT5 h15 hh5 hf5 hcl5 e6 cT6 h16
  by_cases hl : st.lctr j ≤ k
  · by_cases hl2 : st.lctr j = k
    · obtain ⟨v, hv, hlv'⟩ : ∃ v : Nat, v < 2 ∧ st.lval j = (v : Int) := by
        rcases hlv hl2 with h | h
        · exact ⟨0, by omega, h⟩
        · exact ⟨1, by omega, h⟩
      have HE : Hid (advMid d st j k = takeAtP d (lowSt st j k) j v) := by have := HP.out; rw [if_pos hl, if_pos hl2, hlv', Int.toNat_natCast] at this; exact this
      have hl2' : (st.lctr j == k) = true := by simpa using hl2
      rw [hlv'] at l8' n1 n19 ea
      have HC := takeAt_any d base HA.out j v (lowSt st j k) w9 hj hv HM9.out (by rw [low_ech st j k v hv]; omega) (by rw [low_ech st j k v hv]; omega)
      clear SOa hl2 hlv hlv' HP SO9
      go_wp2_with fail
      refine HC.mono ?_
      rintro e wc ⟨rfl, Fc, Mc⟩
      have cc6 := Mc.C.cell 6 (by omega)
      have cc7 := Mc.C.cell 7 (by omega)
      have cc2 := Mc.C.cell 2 (by omega)
      simp only [cC, slc] at cc6 cc7 cc2
      have SOc := Mc.so HA.out
      have HFc : Hid (Fr (Own d) w wc) := HF9.out.trans Fc
      clear Mc Fc HC
      go_wp2_with fail
      go_region_with (go_at_call 16; refine SOc.mono ?_; rintro e wb ⟨rfl, hc, hf, hMb⟩)
      all_goals (go_end0; exact ⟨rfl, HFc.out.trans hMb.out.1, by rw [advanceP, HE.out]; exact hMb.out.2⟩)
    · have hl2' : (st.lctr j == k) = false := by simpa using hl2
      have HE : Hid (advMid d st j k = lowSt st j k) := by have := HP.out; rw [if_pos hl, if_neg hl2] at this; exact this
      clear SOa hl2 hlv HP
      go_wp2_with fail
      go_region_with (go_at_call 16; refine SO9.mono ?_; rintro e wb ⟨rfl, hc, hf, hMb⟩)
      all_goals (go_end0; exact ⟨rfl, HF9.out.trans hMb.out.1, by rw [advanceP, HE.out]; exact hMb.out.2⟩)
  · have hl' : k < st.lctr j := by omega
    have HE : Hid (advMid d st j k = resetSt st j k) := by have := HP.out; rw [if_neg hl] at this; exact this
    clear SO9 hl hlv HP
    go_wp2_with fail
    go_region_with (go_at_call 16; refine SOa.mono ?_; rintro e wb ⟨rfl, hc, hf, hMb⟩)
    all_goals (go_end0; exact ⟨rfl, HFa.out.trans hMb.out.1, by rw [advanceP, HE.out]; exact hMb.out.2⟩)
end Go.Proofs.YbulkcwpuFmt
