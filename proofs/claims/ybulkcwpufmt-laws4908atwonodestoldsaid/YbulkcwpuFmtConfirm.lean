import Derived.Test.YbulkcwpuFmtMem
import Derived.BigRegion
import Derived.BigQuiet
import Derived.Deep.RegionWith
namespace Go.Proofs.YbulkcwpuFmt
open Go.RowKit Go.Lib
set_option linter.unusedVariables false

def confirmP (d : Nd) (st : St) (j v : Nat) : St :=
  if (if up2 st.cfm j v true j 0 then 0 else 1) = st.vals j then { st with cfm := up2 st.cfm j v true }
  else { st with cfm := up2 st.cfm j v true, vals := up st.vals j (if up2 st.cfm j v true j 0 then 0 else 1), out := SO d.n d.f (up st.vals j (if up2 st.cfm j v true j 0 then 0 else 1)) st.ctrs }

theorem Mem.so {d : Nd} {w : World} {st : St} {base : Nat} (h : Mem d w st) (ha : Apart d base) :
    Calls Ybaf.prog 16 #[.slice (some ⟨d.V, 0, none⟩) d.n d.n, .slice (some ⟨d.K, 0, none⟩) d.n d.n, .int .i64 d.f] w.drew fun e w' => e = .returned (.int .i64 (SO d.n d.f st.vals st.ctrs)) ∧
      w'.cell? ⟨d.C, 15, none⟩ = some (.int .i64 st.out) ∧ w'.frozen? ⟨d.C, 15, none⟩ = false ∧
      Hid (Fr (Own d) w (w'.setCell ⟨d.C, 15, none⟩ (.int .i64 (SO d.n d.f st.vals st.ctrs))) ∧ Mem d (w'.setCell ⟨d.C, 15, none⟩ (.int .i64 (SO d.n d.f st.vals st.ctrs))) { st with out := SO d.n d.f st.vals st.ctrs }) := by
  have h1 : Mem d w.drew st := h.drewN 1
  refine (stableOutput_any d.V d.K d.n d.f st.vals st.ctrs w.drew ha.n6 ha.n1 ha.fn h1.lt.2.2.1 h1.lt.2.1 h1.K.cell h1.V.cell).mono ?_
  rintro e w' ⟨rfl, hb⟩
  have h2 := h1.below hb
  exact ⟨rfl, h2.C.cell 15 (by omega), h2.C.free 15 (by omega), ((Fr.refl (Own d) w).drew.trans (Fr.of_below (S := Own d) hb)).setCell (p := ⟨d.C, 15, none⟩) (.inl (by simp [Own])) _, h2.setOut ha _⟩

set_option maxRecDepth 20000 in
set_option maxHeartbeats 800000 in
theorem confirm_any (d : Nd) (base : Nat) (ha : Apart d base) (j v : Nat) (st : St) (w : World) (hj : j < d.n) (hv : v < 2) (hM : Mem d w st) :
    Calls Ybaf.prog 33 #[.pointer (some ⟨d.C, 0, none⟩), .int .i64 j, .int .i64 v] w fun e w' => e = .returned (.tuple #[]) ∧ Fr (Own d) w w' ∧ Mem d w' (confirmP d st j v) := by
  have cT := hM.C.cell 12 (by omega)
  have c4 := hM.tcell (k := 4) hj hv (by omega)
  have f4 := hM.tfree (k := 4) hj hv (by omega)
  obtain ⟨b0, hb0⟩ : ∃ b0, b0 = up2 st.cfm j v true j 0 := ⟨_, rfl⟩
  obtain ⟨l, hl⟩ : ∃ l : Int, l = if b0 then 0 else 1 := ⟨_, rfl⟩
  have HP : Hid (confirmP d st j v = if l = st.vals j then { st with cfm := up2 st.cfm j v true }
    else { st with cfm := up2 st.cfm j v true, vals := up st.vals j l, out := SO d.n d.f (up st.vals j l) st.ctrs }) := by show _ = _; rw [hl, hb0]; rfl
  obtain ⟨w1, e1⟩ : ∃ w1, w.setCell ⟨d.T, j * 10 + v * 5 + 4, none⟩ (.bool true) = w1 := ⟨_, rfl⟩
  have M1 : Mem d w1 { st with cfm := up2 st.cfm j v true } := e1 ▸ hM.setCfm ha hj hv true
  have F1 : Fr (Own d) w w1 := e1 ▸ (Fr.refl _ _).setCell (.inl (by simp [Own])) _
  have cT1 := M1.C.cell 12 (by omega)
  have cV1 := M1.C.cell 6 (by omega)
  have c41 := M1.tcell (v := 0) (k := 4) hj (by omega) (by omega)
  have v1 := M1.V.cell j hj
  have fv1 := M1.V.free j hj
  obtain ⟨w2, e2⟩ : ∃ w2, w1.setCell ⟨d.V, j, none⟩ (.int .i64 l) = w2 := ⟨_, rfl⟩
  have M2 : Mem d w2 { st with cfm := up2 st.cfm j v true, vals := up st.vals j l } := e2 ▸ M1.setV ha hj l
  have F2 : Fr (Own d) w w2 := e2 ▸ F1.setCell (.inl (by simp [Own])) _
  have cV2 := M2.C.cell 6 (by omega)
  have cK2 := M2.C.cell 7 (by omega)
  have cf2 := M2.C.cell 2 (by omega)
  have SO2 := M2.so ha
  simp only [cC, rec5, slc, Nat.zero_mul, Nat.add_zero] at cT c4 cT1 cV1 c41 cV2 cK2 cf2
  rw [← hb0] at c41
  have HM : Hid (Mem d w1 { st with cfm := up2 st.cfm j v true }) := M1
  have HF1 : Hid (Fr (Own d) w w1) := F1
  have HF2 : Hid (Fr (Own d) w w2) := F2
  revert SO2
  generalize hso : SO d.n d.f (up st.vals j l) st.ctrs = so at *
  intro SO2
  clear hM ha M1 F1 M2 F2 hb0
  go_enter Ybaf.func33, Ybaf.ntmps33
  cases b0 with
  | false =>
    have hl1 : l = 1 := hl
    subst hl1
    clear hl
    by_cases hl : 1 = st.vals j
    · have hl' : (1 == st.vals j) = true := by simpa using hl
      have HE : Hid (confirmP d st j v = { st with cfm := up2 st.cfm j v true }) := by have := HP.out; rw [if_pos hl] at this; exact this
      clear hl HP
      go_wp2_with fail
      go_end0
      exact ⟨rfl, HF1.out, HE.out ▸ HM.out⟩
    · have hl' : (1 == st.vals j) = false := by simpa using hl
      have HE : Hid (confirmP d st j v = { st with cfm := up2 st.cfm j v true, vals := up st.vals j 1, out := so }) := by have := HP.out; rw [if_neg hl] at this; exact this
      clear hl HP
      go_wp2_with fail
      go_region_with (go_at_call 16; refine SO2.mono ?_; rintro e w3 ⟨rfl, hc, hf, hM3⟩)
      all_goals (go_end0; exact ⟨rfl, HF2.out.trans hM3.out.1, HE.out ▸ hM3.out.2⟩)
  | true =>
    have hl1 : l = 0 := hl
    subst hl1
    clear hl
    by_cases hl : 0 = st.vals j
    · have hl' : (0 == st.vals j) = true := by simpa using hl
      have HE : Hid (confirmP d st j v = { st with cfm := up2 st.cfm j v true }) := by have := HP.out; rw [if_pos hl] at this; exact this
      clear hl HP
      go_wp2_with fail
      go_end0
      exact ⟨rfl, HF1.out, HE.out ▸ HM.out⟩
    · have hl' : (0 == st.vals j) = false := by simpa using hl
      have HE : Hid (confirmP d st j v = { st with cfm := up2 st.cfm j v true, vals := up st.vals j 0, out := so }) := by have := HP.out; rw [if_neg hl] at this; exact this
      clear hl HP
      go_wp2_with fail
      go_region_with (go_at_call 16; refine SO2.mono ?_; rintro e w3 ⟨rfl, hc, hf, hM3⟩)
      all_goals (go_end0; exact ⟨rfl, HF2.out.trans hM3.out.1, HE.out ▸ hM3.out.2⟩)
end Go.Proofs.YbulkcwpuFmt
