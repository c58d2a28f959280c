import Derived.Test.YbulkcwpuFmtConfirm
namespace Go.Proofs.YbulkcwpuFmt
open Go.RowKit Go.Lib
set_option linter.unusedVariables false

def hasB (h : Int) (k : Nat) : Bool := bits .and .u64 h (IntKind.u64.wrap (2 ^ k)) != 0
def orB (h : Int) (k : Nat) : Int := bits .or .u64 h (IntKind.u64.wrap (2 ^ k))

set_option maxRecDepth 20000 in
set_option maxHeartbeats 800000 in
theorem add_any (H p k : Nat) (h : Int) (w : World) (hk : k < 6) (c : w.cell? ⟨H, p, none⟩ = some (.int .u64 h)) (f : w.frozen? ⟨H, p, none⟩ = false) :
    Calls Ybaf.prog 31 #[.slice (some ⟨H, p, none⟩) 1 1, .int .i64 k] w fun e w' => ∃ q, e = .returned (.bool (!hasB h k)) ∧ w' = if hasB h k then w.drewN q else (w.setCell ⟨H, p, none⟩ (.int .u64 (orB h k))).drewN q := by
  have h1 : (k : Int) / 64 = 0 := by omega
  have h2 : (k : Int) % 64 = k := by omega
  have h3 : k / 64 = 0 := by omega
  have h4 : k % 64 = k := by omega
  unfold hasB orB
  generalize hm : IntKind.u64.wrap (2 ^ k) = m
  cases hb : bits BinOp.and IntKind.u64 h m != 0
  · go_enter Ybaf.func31, Ybaf.ntmps31
    go_wp2_with fail
    go_quiet (fail)
    go_wp2_with fail
    go_ret
    exact ⟨rfl, _, rfl⟩
  · go_enter Ybaf.func31, Ybaf.ntmps31
    go_wp2_with fail
    go_quiet (fail)
    go_wp2_with fail
    go_ret
    exact ⟨rfl, _, rfl⟩

/-- What 'hear' leaves: R being what 'startEcho' would leave. -/
def heardSt (st : St) (j v k : Nat) : St := { st with hrd := up2 st.hrd j v (orB (st.hrd j v) k), ech := up2 st.ech j v (st.ech j v + 1) }
def hearG (d : Nd) (st : St) (j v k : Nat) (R : St) : St :=
  if hasB (st.hrd j v) k then st
  else if (d.f : Int) ≤ st.ech j v ∧ st.ecg j v = false then R
  else if (d.n : Int) - d.f ≤ st.ech j v + 1 ∧ st.cfm j v = false then confirmP d (heardSt st j v k) j v
  else heardSt st j v k

set_option maxRecDepth 20000 in
set_option maxHeartbeats 800000 in
theorem hear_gen (d : Nd) (base : Nat) (ha : Apart d base) (j v k : Nat) (st R : St) (w : World) (hj : j < d.n) (hv : v < 2) (hk : k < 6) (hM : Mem d w st) (he0 : 0 ≤ st.ech j v) (he1 : st.ech j v < 100)
    (hse : st.ecg j v = false → ∀ w1, Mem d w1 (heardSt st j v k) → Calls Ybaf.prog 32 #[.pointer (some ⟨d.C, 0, none⟩), .int .i64 j, .int .i64 v] w1 fun e w' => e = .returned (.tuple #[]) ∧ Fr (Own d) w1 w' ∧ Mem d w' R) :
    Calls Ybaf.prog 20 #[.pointer (some ⟨d.C, 0, none⟩), .int .i64 j, .int .i64 v, .int .i64 k] w fun e w' => e = .returned (.tuple #[]) ∧ Fr (Own d) w w' ∧ Mem d w' (hearG d st j v k R) := by
  have cT := hM.C.cell 12 (by omega)
  have c1 := hM.tcell (k := 1) hj hv (by omega)
  have hc := hM.hcell hj hv
  have hf := hM.hfree hj hv
  simp only [cC, rec5, slc] at cT c1
  have hadd := add_any d.H (j * 2 + v) k (st.hrd j v) w hk hc hf
  have HM0 : Hid (Mem d w st) := hM
  have HA : Hid (Apart d base) := ha
  have nf := ha.fn
  have n6 := ha.n6
  clear hM ha hc hf
  cases hb : hasB (st.hrd j v) k
  · simp only [hb, Bool.false_eq_true, if_false, Bool.not_false] at hadd
    have HP : Hid (hearG d st j v k R = if (d.f : Int) ≤ st.ech j v ∧ st.ecg j v = false then R else if (d.n : Int) - d.f ≤ st.ech j v + 1 ∧ st.cfm j v = false then confirmP d (heardSt st j v k) j v
      else heardSt st j v k) := by
      show hearG d st j v k R = _
      rw [hearG, hb]; rfl
    have HSE : Hid (st.ecg j v = false → ∀ w1, Mem d w1 (heardSt st j v k) → Calls Ybaf.prog 32 #[.pointer (some ⟨d.C, 0, none⟩), .int .i64 j, .int .i64 v] w1 fun e w' => e = .returned (.tuple #[]) ∧ Fr (Own d) w1 w' ∧ Mem d w' R) := hse
    clear hse hb
    go_enter Ybaf.func20, Ybaf.ntmps20
    go_wp2_with fail
    refine hadd.mono ?_
    rintro e w1 ⟨q, rfl, e1⟩
    have M1 : Mem d w1 { st with hrd := up2 st.hrd j v (orB (st.hrd j v) k) } := e1 ▸ (HM0.out.setHrd HA.out hj hv _).drewN q
    have F1 : Fr (Own d) w w1 := e1 ▸ ((Fr.refl _ _).setCell (.inl (by simp [Own])) _).drewN
    have c21 := M1.tcell (k := 2) hj hv (by omega)
    have f21 := M1.tfree (k := 2) hj hv (by omega)
    obtain ⟨w2, e2⟩ : ∃ w2, w1.setCell ⟨d.T, j * 10 + v * 5 + 2, none⟩ (.int .i64 (st.ech j v + 1)) = w2 := ⟨_, rfl⟩
    have M2 : Mem d w2 (heardSt st j v k) := e2 ▸ M1.setEch HA.out hj hv _
    have F2 : Fr (Own d) w w2 := e2 ▸ F1.setCell (.inl (by simp [Own])) _
    have c22 := M2.tcell (k := 2) hj hv (by omega)
    have c23 := M2.tcell (k := 3) hj hv (by omega)
    have c24 := M2.tcell (k := 4) hj hv (by omega)
    have cn2 := M2.C.cell 1 (by omega)
    have cf2 := M2.C.cell 2 (by omega)
    simp only [cC, rec5, heardSt, up2_same] at c21 c22 c23 c24 cn2 cf2
    have HM : Hid (∀ q, Mem d (w2.drewN q) (heardSt st j v k)) := fun q => M2.drewN q
    have HF : Hid (∀ q, Fr (Own d) w (w2.drewN q)) := fun q => F2.drewN
    clear M1 F1 M2 F2 e1 hadd
    go_wp2_with fail
    by_cases g1 : (d.f : Int) ≤ st.ech j v
    · cases hec : st.ecg j v
      · have HE : Hid (hearG d st j v k R = R) := by have := HP.out; rw [if_pos ⟨g1, hec⟩] at this; exact this
        have HC : Hid (∀ w1, Mem d w1 (heardSt st j v k) → Calls Ybaf.prog 32 #[.pointer (some ⟨d.C, 0, none⟩), .int .i64 j, .int .i64 v] w1 fun e w' => e = .returned (.tuple #[]) ∧ Fr (Own d) w1 w' ∧ Mem d w' R) := HSE.out hec
        rw [hec] at c23
        go_quiet (fail)
        go_wp2_with fail
        refine (HC.out _ (by first | exact HM.out _ | exact (HM.out _).drewN _)).mono ?_
        rintro e w3 ⟨rfl, hF, hM⟩
        go_wp2_with fail
        go_end0
        exact ⟨rfl, (by first | exact (HF.out _).trans hF | exact (HF.out _).drewN.trans hF), by rw [HE.out]; exact hM⟩
      · rw [hec] at c23
        by_cases g2 : (d.n : Int) - d.f ≤ st.ech j v + 1
        · cases hcf : st.cfm j v
          · have HE : Hid (hearG d st j v k R = confirmP d (heardSt st j v k) j v) := by have := HP.out; rw [if_neg (by rw [hec]; simp), if_pos ⟨g2, hcf⟩] at this; exact this
            rw [hcf] at c24
            go_quiet (fail)
            go_wp2_with fail
            go_quiet (fail)
            go_wp2_with fail
            refine (confirm_any d base HA.out j v _ _ hj hv (by first | exact HM.out _ | exact (HM.out _).drewN _)).mono ?_
            rintro e w3 ⟨rfl, hF, hM⟩
            go_wp2_with fail
            go_end0
            exact ⟨rfl, (by first | exact (HF.out _).trans hF | exact (HF.out _).drewN.trans hF), by rw [HE.out]; exact hM⟩
          · have HE : Hid (hearG d st j v k R = heardSt st j v k) := by have := HP.out; rw [if_neg (by rw [hec]; simp), if_neg (by rw [hcf]; simp)] at this; exact this
            rw [hcf] at c24
            go_quiet (fail)
            go_wp2_with fail
            go_quiet (fail)
            go_wp2_with fail
            go_end0
            exact ⟨rfl, (by first | exact HF.out _ | exact (HF.out _).drewN), by rw [HE.out]; first | exact HM.out _ | exact (HM.out _).drewN _⟩
        · have HE : Hid (hearG d st j v k R = heardSt st j v k) := by have := HP.out; rw [if_neg (by rw [hec]; simp), if_neg (fun h => g2 h.1)] at this; exact this
          have g2' : st.ech j v + 1 < (d.n : Int) - d.f := by omega
          have g2d : decide ((d.n : Int) - d.f ≤ st.ech j v + 1) = false := decide_eq_false g2
          go_quiet (fail)
          go_wp2_with fail
          go_quiet (fail)
          go_wp2_with fail
          go_end0
          exact ⟨rfl, (by first | exact HF.out _ | exact (HF.out _).drewN), by rw [HE.out]; first | exact HM.out _ | exact (HM.out _).drewN _⟩
    · have g1' : st.ech j v < (d.f : Int) := by omega
      by_cases g2 : (d.n : Int) - d.f ≤ st.ech j v + 1
      · cases hcf : st.cfm j v
        · have HE : Hid (hearG d st j v k R = confirmP d (heardSt st j v k) j v) := by have := HP.out; rw [if_neg (fun h => g1 h.1), if_pos ⟨g2, hcf⟩] at this; exact this
          rw [hcf] at c24
          go_quiet (fail)
          go_wp2_with fail
          go_quiet (fail)
          go_wp2_with fail
          refine (confirm_any d base HA.out j v _ _ hj hv (by first | exact HM.out _ | exact (HM.out _).drewN _)).mono ?_
          rintro e w3 ⟨rfl, hF, hM⟩
          go_wp2_with fail
          go_end0
          exact ⟨rfl, (by first | exact (HF.out _).trans hF | exact (HF.out _).drewN.trans hF), by rw [HE.out]; exact hM⟩
        · have HE : Hid (hearG d st j v k R = heardSt st j v k) := by have := HP.out; rw [if_neg (fun h => g1 h.1), if_neg (by rw [hcf]; simp)] at this; exact this
          rw [hcf] at c24
          go_quiet (fail)
          go_wp2_with fail
          go_quiet (fail)
          go_wp2_with fail
          go_end0
          exact ⟨rfl, (by first | exact HF.out _ | exact (HF.out _).drewN), by rw [HE.out]; first | exact HM.out _ | exact (HM.out _).drewN _⟩
      · have HE : Hid (hearG d st j v k R = heardSt st j v k) := by have := HP.out; rw [if_neg (fun h => g1 h.1), if_neg (fun h => g2 h.1)] at this; exact this
        have g2' : st.ech j v + 1 < (d.n : Int) - d.f := by omega
        have g2d : decide ((d.n : Int) - d.f ≤ st.ech j v + 1) = false := decide_eq_false g2
        go_quiet (fail)
        go_wp2_with fail
        go_quiet (fail)
        go_wp2_with fail
        go_end0
        exact ⟨rfl, (by first | exact HF.out _ | exact (HF.out _).drewN), by rw [HE.out]; first | exact HM.out _ | exact (HM.out _).drewN _⟩
  · simp only [hb, if_true, Bool.not_true] at hadd
    have HP : Hid (hearG d st j v k R = st) := by
      show hearG d st j v k R = _
      rw [hearG, if_pos hb]
    clear hse hb
    go_enter Ybaf.func20, Ybaf.ntmps20
    go_wp2_with fail
    refine hadd.mono ?_
    rintro e w1 ⟨q, rfl, rfl⟩
    go_wp2_with fail
    (try simp only [Exit.inBlock, Exit.then]); refine bodyPost_ret (results_none rfl _ _ _) rfl ?_
    exact ⟨rfl, (Fr.refl _ _).drewN, by rw [HP.out]; exact HM0.out.drewN q⟩

/-- 'hear' where the node echoes the claim already. -/
theorem hear_old (d : Nd) (base : Nat) (ha : Apart d base) (j v k : Nat) (st : St) (w : World) (hj : j < d.n) (hv : v < 2) (hk : k < 6) (hM : Mem d w st) (he0 : 0 ≤ st.ech j v) (he1 : st.ech j v < 100) (he : st.ecg j v = true) :
    Calls Ybaf.prog 20 #[.pointer (some ⟨d.C, 0, none⟩), .int .i64 j, .int .i64 v, .int .i64 k] w fun e w' => e = .returned (.tuple #[]) ∧ Fr (Own d) w w' ∧ Mem d w' (hearG d st j v k st) :=
  hear_gen d base ha j v k st st w hj hv hk hM he0 he1 (fun h => by rw [he] at h; cases h)

def startedSt (st : St) (j v : Nat) : St := { st with ecg := up2 st.ecg j v true, stale := true }
def startEchoP (d : Nd) (st : St) (j v : Nat) : St := if st.ecg j v then st else hearG d (startedSt st j v) j v d.s (startedSt st j v)

set_option maxRecDepth 20000 in
set_option maxHeartbeats 800000 in
theorem startEcho_any (d : Nd) (base : Nat) (ha : Apart d base) (j v : Nat) (st : St) (w : World) (hj : j < d.n) (hv : v < 2) (hM : Mem d w st) (he0 : 0 ≤ st.ech j v) (he1 : st.ech j v < 100) :
    Calls Ybaf.prog 32 #[.pointer (some ⟨d.C, 0, none⟩), .int .i64 j, .int .i64 v] w fun e w' => e = .returned (.tuple #[]) ∧ Fr (Own d) w w' ∧ Mem d w' (startEchoP d st j v) := by
  have cT := hM.C.cell 12 (by omega)
  have c3 := hM.tcell (k := 3) hj hv (by omega)
  have f3 := hM.tfree (k := 3) hj hv (by omega)
  simp only [cC, rec5, slc] at cT c3
  cases hec : st.ecg j v
  · obtain ⟨w1, e1⟩ : ∃ w1, w.setCell ⟨d.T, j * 10 + v * 5 + 3, none⟩ (.bool true) = w1 := ⟨_, rfl⟩
    have M1 : Mem d w1 { st with ecg := up2 st.ecg j v true } := e1 ▸ hM.setEcg ha hj hv _
    have F1 : Fr (Own d) w w1 := e1 ▸ (Fr.refl _ _).setCell (.inl (by simp [Own])) _
    have c141 := M1.C.cell 14 (by omega)
    have f141 := M1.C.free 14 (by omega)
    obtain ⟨w2, e2⟩ : ∃ w2, w1.setCell ⟨d.C, 14, none⟩ (.bool true) = w2 := ⟨_, rfl⟩
    have M2 : Mem d w2 (startedSt st j v) := e2 ▸ M1.setStale ha _
    have F2 : Fr (Own d) w w2 := e2 ▸ F1.setCell (.inl (by simp [Own])) _
    have cs2 := M2.C.cell 0 (by omega)
    simp only [cC] at c141 cs2
    have H : Hid (Calls Ybaf.prog 20 #[.pointer (some ⟨d.C, 0, none⟩), .int .i64 j, .int .i64 v, .int .i64 d.s] w2 fun e w' => e = .returned (.tuple #[]) ∧ Fr (Own d) w2 w' ∧ Mem d w' (startEchoP d st j v)) := by
      have h := hear_old d base ha j v d.s (startedSt st j v) w2 hj hv (by have := ha.sn; have := ha.n6; omega) M2 he0 he1 (by simp [startedSt, up2])
      have e : startEchoP d st j v = hearG d (startedSt st j v) j v d.s (startedSt st j v) := by rw [startEchoP, hec]; rfl
      rw [← e] at h
      exact h
    have HF : Hid (Fr (Own d) w w2) := F2
    rw [hec] at c3
    clear hM ha M1 F1 M2 F2 hec
    go_enter Ybaf.func32, Ybaf.ntmps32
    go_wp2_with fail
    refine H.out.mono ?_
    rintro e w3 ⟨rfl, hF, hM⟩
    go_wp2_with fail
    go_end0
    exact ⟨rfl, HF.out.trans hF, hM⟩
  · have HE : Hid (startEchoP d st j v = st) := by show startEchoP d st j v = st; rw [startEchoP, if_pos hec]
    have HM : Hid (Mem d w st) := hM
    rw [hec] at c3
    clear hM ha hec
    go_enter Ybaf.func32, Ybaf.ntmps32
    go_wp2_with fail
    (try simp only [Exit.inBlock, Exit.then]); refine bodyPost_ret (results_none rfl _ _ _) rfl ?_
    exact ⟨rfl, Fr.refl _ _, by rw [HE.out]; exact HM.out⟩

def hearP (d : Nd) (st : St) (j v k : Nat) : St := hearG d st j v k (startEchoP d (heardSt st j v k) j v)

theorem hear_any (d : Nd) (base : Nat) (ha : Apart d base) (j v k : Nat) (st : St) (w : World) (hj : j < d.n) (hv : v < 2) (hk : k < 6) (hM : Mem d w st) (he0 : 0 ≤ st.ech j v) (he1 : st.ech j v < 99) :
    Calls Ybaf.prog 20 #[.pointer (some ⟨d.C, 0, none⟩), .int .i64 j, .int .i64 v, .int .i64 k] w fun e w' => e = .returned (.tuple #[]) ∧ Fr (Own d) w w' ∧ Mem d w' (hearP d st j v k) :=
  hear_gen d base ha j v k st _ w hj hv hk hM he0 (by omega) (fun _ w1 M1 => startEcho_any d base ha j v _ w1 hj hv M1 (by simp only [heardSt, up2_same]; omega) (by simp only [heardSt, up2_same]; omega))

def takeAtP (d : Nd) (st : St) (j v : Nat) : St := if st.ini j 0 || st.ini j 1 then st else startEchoP d { st with ini := up2 st.ini j v true } j v

set_option maxRecDepth 20000 in
set_option maxHeartbeats 800000 in
theorem takeAt_any (d : Nd) (base : Nat) (ha : Apart d base) (j v : Nat) (st : St) (w : World) (hj : j < d.n) (hv : v < 2) (hM : Mem d w st) (he0 : 0 ≤ st.ech j v) (he1 : st.ech j v < 100) :
    Calls Ybaf.prog 22 #[.pointer (some ⟨d.C, 0, none⟩), .int .i64 j, .int .i64 v] w fun e w' => e = .returned (.tuple #[]) ∧ Fr (Own d) w w' ∧ Mem d w' (takeAtP d st j v) := by
  have cT := hM.C.cell 12 (by omega)
  have c0 := hM.tcell (v := 0) (k := 0) hj (by omega) (by omega)
  have c1 := hM.tcell (v := 1) (k := 0) hj (by omega) (by omega)
  have cv := hM.tcell (k := 0) hj hv (by omega)
  have fv := hM.tfree (k := 0) hj hv (by omega)
  simp only [cC, rec5, slc, Nat.zero_mul, Nat.add_zero, Nat.one_mul] at cT c0 c1 cv fv
  cases hi0 : st.ini j 0
  · cases hi1 : st.ini j 1
    · obtain ⟨w1, e1⟩ : ∃ w1, w.setCell ⟨d.T, j * 10 + v * 5, none⟩ (.bool true) = w1 := ⟨_, rfl⟩
      have M1 : Mem d w1 { st with ini := up2 st.ini j v true } := e1 ▸ hM.setIni ha hj hv _
      have F1 : Fr (Own d) w w1 := e1 ▸ (Fr.refl _ _).setCell (.inl (by simp [Own])) _
      have H : Hid (Calls Ybaf.prog 32 #[.pointer (some ⟨d.C, 0, none⟩), .int .i64 j, .int .i64 v] w1 fun e w' => e = .returned (.tuple #[]) ∧ Fr (Own d) w1 w' ∧ Mem d w' (takeAtP d st j v)) := by
        have h := startEcho_any d base ha j v _ w1 hj hv M1 he0 he1
        have e : takeAtP d st j v = startEchoP d { st with ini := up2 st.ini j v true } j v := by rw [takeAtP, hi0, hi1]; rfl
        rw [← e] at h
        exact h
      have HF : Hid (Fr (Own d) w w1) := F1
      rw [hi0] at c0
      rw [hi1] at c1
      clear hM ha M1 F1 hi0 hi1
      go_enter Ybaf.func22, Ybaf.ntmps22
      go_wp2_with fail
      refine H.out.mono ?_
      rintro e w3 ⟨rfl, hF, hM⟩
      go_wp2_with fail
      go_end0
      exact ⟨rfl, HF.out.trans hF, hM⟩
    · have HE : Hid (takeAtP d st j v = st) := by show takeAtP d st j v = st; rw [takeAtP, hi1]; simp
      have HM : Hid (Mem d w st) := hM
      rw [hi0] at c0
      rw [hi1] at c1
      clear hM ha hi0 hi1
      go_enter Ybaf.func22, Ybaf.ntmps22
      go_wp2_with fail
      (try simp only [Exit.inBlock, Exit.then]); refine bodyPost_ret (results_none rfl _ _ _) rfl ?_
      exact ⟨rfl, Fr.refl _ _, by rw [HE.out]; exact HM.out⟩
  · have HE : Hid (takeAtP d st j v = st) := by show takeAtP d st j v = st; rw [takeAtP, hi0]; simp
    have HM : Hid (Mem d w st) := hM
    rw [hi0] at c0
    clear hM ha hi0 c1
    go_enter Ybaf.func22, Ybaf.ntmps22
    go_wp2_with fail
    (try simp only [Exit.inBlock, Exit.then]); refine bodyPost_ret (results_none rfl _ _ _) rfl ?_
    exact ⟨rfl, Fr.refl _ _, by rw [HE.out]; exact HM.out⟩
end Go.Proofs.YbulkcwpuFmt
