/-
  The walk of 'Receive' (8): two nodes, no liar, a report of the other node.
-/
import Derived.Test.YbulkcwpuFmtVote
import Derived.Deep.CutBlock
import Derived.Deep.DeepCutAuto
import Derived.Deep.RegionHeld
namespace Go.Proofs.YbulkcwpuFmt
open Go.RowKit Go.Lib
set_option linter.unusedVariables false

/-- The counters that are confirmed in the end. -/
def wantC (n0 : Nat) (z0 : Nat → Int) (j : Nat) : Int := if j < n0 ∧ 0 ≤ z0 j then z0 j else -1

theorem new_two (d : Nd) (hn : d.n = 2) (hf : d.f = 0) : newSt d = oneSt d := by
  unfold newSt
  rw [if_neg (by omega)]

set_option maxRecDepth 20000 in
set_option maxHeartbeats 3200000 in
theorem receive_two (d : Nd) (base : Nat) (ha : Apart d base) (hn : d.n = 2) (hf : d.f = 0) (o : Nat) (hs : d.s + o = 1) (a b c : Int) (pE pC : Option Addr) (n1 n0 gE gC : Nat) (z0 : Nat → Int) (z1 : Nat → Nat → Int) (w : World)
    (hM : Mem d w (newSt d)) (hn0 : n0 ≤ 1024) (hn1 : n1 ≤ 1024)
    (hC : ∀ i, i < n0 → pC = some ⟨gC, 0, none⟩ ∧ gC < w.heap.size ∧ ¬ Own d gC ∧ w.cell? ⟨gC, i, none⟩ = some (.int .i64 (z0 i)))
    (hE : ∀ i, i < n1 → pE = some ⟨gE, 0, none⟩ ∧ gE < w.heap.size ∧ ¬ Own d gE ∧ ∀ k, k < 3 → w.cell? ⟨gE, i * 3 + k, none⟩ = some (.int .i64 (z1 i k))) :
    Calls Ybaf.prog 8 #[.pointer (some ⟨d.C, 0, none⟩), .int .i64 o, .agg #[.int .i64 a, .int .i64 b, .int .i64 c, .slice pE n1 n1, .slice pC n0 n0]] w
      fun e w' => e = .returned (.tuple #[]) ∧ Fr (Own d) w w' ∧ ∃ st, Mem d w' st ∧ Post d (wantC n0 z0) z1 n1 st := by
  rw [new_two d hn hf] at hM
  obtain ⟨wa, ea⟩ : ∃ wa, w.alloc (.cells #[.int .i64 a, .int .i64 b, .int .i64 c, .slice pE n1 n1, .slice pC n0 n0] 33) = wa := ⟨_, rfl⟩
  have Ma : Mem d wa (oneSt d) := ea ▸ hM.alloc _
  have Fa : Fr (Own d) w wa := ea ▸ (Fr.refl _ _).alloc _
  obtain ⟨B, hB⟩ : ∃ B, w.heap.size = B := ⟨_, rfl⟩
  have hBa : B < wa.heap.size := by rw [← ea, ← hB]; simp
  have hBo : ¬ Own d B := by have := hM.lt; rw [← hB]; unfold Own; omega
  have b0 : wa.cell? ⟨B, 0, none⟩ = some (.int .i64 a) := by rw [← ea, World.cell?_alloc_at _ _ _ _ hB.symm]; rfl
  have b1 : wa.cell? ⟨B, 1, none⟩ = some (.int .i64 b) := by rw [← ea, World.cell?_alloc_at _ _ _ _ hB.symm]; rfl
  have b2 : wa.cell? ⟨B, 2, none⟩ = some (.int .i64 c) := by rw [← ea, World.cell?_alloc_at _ _ _ _ hB.symm]; rfl
  have b3 : wa.cell? ⟨B, 3, none⟩ = some (.slice pE n1 n1) := by rw [← ea, World.cell?_alloc_at _ _ _ _ hB.symm]; rfl
  have b4 : wa.cell? ⟨B, 4, none⟩ = some (.slice pC n0 n0) := by rw [← ea, World.cell?_alloc_at _ _ _ _ hB.symm]; rfl
  have HC : Hid (∀ i, i < n0 → pC = some ⟨gC, 0, none⟩ ∧ gC < wa.heap.size ∧ ¬ Own d gC ∧ wa.cell? ⟨gC, i, none⟩ = some (.int .i64 (z0 i))) := fun i hi => by
    obtain ⟨h1, h2, h3, h4⟩ := hC i hi
    exact ⟨h1, Nat.lt_of_lt_of_le h2 Fa.size, h3, (Fa.cell (p := ⟨gC, i, none⟩) h2 h3).trans h4⟩
  have HE : Hid (∀ i, i < n1 → pE = some ⟨gE, 0, none⟩ ∧ gE < wa.heap.size ∧ ¬ Own d gE ∧ ∀ k, k < 3 → wa.cell? ⟨gE, i * 3 + k, none⟩ = some (.int .i64 (z1 i k))) := fun i hi => by
    obtain ⟨h1, h2, h3, h4⟩ := hE i hi
    exact ⟨h1, Nat.lt_of_lt_of_le h2 Fa.size, h3, fun k hk => (Fa.cell (p := ⟨gE, i * 3 + k, none⟩) h2 h3).trans (h4 k hk)⟩
  have c1 := Ma.C.cell 1 (by omega)
  have c00 := Ma.C.cell 0 (by omega)
  simp only [cC] at c1 c00
  rw [hn] at c1
  have ho2 : o < 2 := by omega
  have hsd : d.s < 2 := by omega
  have hne : ((o : Int) == (d.s : Int)) = false := by simp; omega
  have hlt : decide ((o : Int) < 0) = false := decide_eq_false (by omega)
  have hge : decide ((2 : Int) ≤ (o : Int)) = false := decide_eq_false (by omega)
  have hos : o ≠ d.s := by omega
  have HT := takeInit_two d base ha hn hf o b c (oneSt d) wa (by omega) Ma rfl (up_ne _ _ _ _ hos) (up_ne _ _ _ _ hos) rfl
  have HA : Hid (Apart d base) := ha
  have HMa : Hid (Mem d wa (oneSt d)) := Ma
  have HFa : Hid (Fr (Own d) w wa) := Fa
  -- the fresh node
  have hbas : ∀ st : St, st.vals = (oneSt d).vals → st.cfm = (oneSt d).cfm → st.ecg = (oneSt d).ecg → st.hrd = (oneSt d).hrd → st.ech = (oneSt d).ech → st.out = (oneSt d).out → st.ctrs = (oneSt d).ctrs → Bas d st := by
    intro st q1 q2 q3 q4 q5 q6 q7
    refine ⟨fun j _ => by rw [q1]; rfl, fun j v _ _ => ⟨by rw [q2]; rfl, .inl ⟨by rw [q3]; rfl, by rw [q4]; rfl, by rw [q5]; rfl⟩⟩, ?_⟩
    rw [q6, q1, q7]
    show SO d.n d.f _ _ = _
    rw [hn, hf]
    rfl
  have hin := ha.bin
  have HB0 : Hid (∀ wc, Mem d wc (oneSt d) → ∃ st, Mem d wc st ∧ Bas d st ∧ ∀ j, j < 2 → Pre st j) := by
    intro wc hm
    refine ⟨_, hm, hbas _ rfl rfl rfl rfl rfl rfl rfl, fun j _ => ⟨rfl, rfl, ?_, ?_⟩⟩
    · show -1 ≤ up _ _ _ j; unfold up; split <;> simp [freshSt, st0]
    · show 0 ≤ up _ _ _ j → up _ _ _ j = 0 ∨ up _ _ _ j = 1
      unfold up
      split
      · intro _; exact hin
      · intro h; exact absurd h (by simp [freshSt, st0])
  have HB1 : Hid (∀ wc, (0 ≤ c ∧ (b = 0 ∨ b = 1) ∧ Mem d wc (initSt (oneSt d) o b c)) → ∃ st, Mem d wc st ∧ Bas d st ∧ ∀ j, j < 2 → Pre st j) := by
    rintro wc ⟨hk, hx, hm⟩
    refine ⟨_, hm, hbas _ rfl rfl rfl rfl rfl rfl rfl, fun j _ => ⟨rfl, rfl, ?_, ?_⟩⟩
    · show -1 ≤ up (up _ _ _) _ _ j; unfold up; split; omega; split <;> simp [freshSt, st0]
    · show 0 ≤ up (up _ _ _) _ _ j → up (up _ _ _) _ _ j = 0 ∨ up (up _ _ _) _ _ j = 1
      unfold up
      split
      · intro _; exact hx
      · split
        · intro _; exact hin
        · intro h; exact absurd h (by simp [freshSt, st0])
  clear hM ha Ma Fa hC hE hbas hin
  go_enter Ybaf.func8, Ybaf.ntmps8
  go_upto_if 33 with fail
  go_cut [5] (fun s5 wc => s5 = .pointer (some ⟨B, 0, none⟩) ∧ Fr (Own d) wa wc ∧ ∃ st, Mem d wc st ∧ Bas d st ∧ ∀ j, j < 2 → Pre st j)
  case first =>
    by_cases hao : a = o
    · subst hao
      have hao' : ((o : Int) == (o : Int)) = true := by simp
      go_wp2_with fail
      refine HT.mono ?_
      rintro e w1 ⟨rfl, F1, h1⟩
      have HH : Hid (Fr (Own d) wa w1 ∧ ∃ st, Mem d w1 st ∧ Bas d st ∧ ∀ j, j < 2 → Pre st j) := ⟨F1, h1.elim (HB0.out _) (HB1.out _)⟩
      clear h1 F1
      go_wp2_with fail
      go_meet
      case rel => exact ⟨rfl, HH.out⟩
    · have hao' : (a == (o : Int)) = false := by simpa using hao
      clear hao
      go_wp2_with fail
      go_meet
      case rel => exact ⟨rfl, Fr.refl _ _, HB0.out _ HMa.out⟩
  case rest =>
    obtain ⟨rfl, Fc, st0, hM0, hBas0, hPre0⟩ := hcut
    clear HB0 HB1 HMa HT b0 b1 b2 c1 c00 hne hlt hge
    have c1 := hM0.C.cell 1 (by omega)
    simp only [cC] at c1
    rw [hn] at c1
    have b3' := (Fc.cell (p := ⟨B, 3, none⟩) hBa hBo).trans b3
    have b4' := (Fc.cell (p := ⟨B, 4, none⟩) hBa hBo).trans b4
    have HM0 : Hid (Mem d wc st0) := hM0
    have HF0 : Hid (Fr (Own d) wa wc) := Fc
    have HBas0 : Hid (Bas d st0) := hBas0
    have HPre0 : Hid (∀ j, j < 2 → Pre st0 j) := hPre0
    clear hM0 Fc hBas0 hPre0
    obtain ⟨cnt, hcnt⟩ : ∃ cnt, min n0 2 = cnt := ⟨_, rfl⟩
    have hcnt1 : cnt ≤ n0 := by omega
    have hmin : (if (2 : Int) < (n0 : Int) then (2 : Int) else (n0 : Int)) = (cnt : Int) := by split <;> omega
    have hcnt2 : (cnt : Int) ≤ (n0 : Int) := by omega
    go_wp2_with fail
    go_quiet (fail)
    have HS : Hid (Fr (Own d) wa (wc.drewN nq) ∧ ∃ st, Mem d (wc.drewN nq) st ∧ Bas d st ∧ (∀ j, j < 2 → 0 ≤ j → Pre st j) ∧ ∀ j, j < 2 → j < 0 → st.ctrs j = wantC n0 z0 j) :=
      ⟨HF0.out.drewN, st0, HM0.out.drewN nq, HBas0.out, fun j hj _ => HPre0.out j hj, fun j _ h => absurd h (Nat.not_lt_zero _)⟩
    clear HM0 HF0 HBas0 HPre0 c1 b3' b4' hmin
    go_wp2_with fail
    go_loopw [50] (fun x wr => ∃ m : Nat, m ≤ cnt ∧ x = .int .i64 m ∧ Fr (Own d) wa wr ∧ ∃ st, Mem d wr st ∧ Bas d st ∧ (∀ j, j < 2 → m ≤ j → Pre st j) ∧ ∀ j, j < 2 → j < m → st.ctrs j = wantC n0 z0 j) (fun x _ => cnt - (intOf x).toNat)
    case atStart => exact ⟨0, Nat.zero_le _, rfl, HS.out⟩
    case round =>
      clear HS
      obtain ⟨m, hm, rfl, hF, st, hM, hBas, hPre, hCtr⟩ := hrel
      by_cases hlt : m < cnt
      · obtain ⟨hp, hg, hgo, hcell⟩ := HC.out m (by omega)
        have hm2 : m < 2 := by omega
        have hpm := hPre m hm2 (Nat.le_refl _)
        have gc := (hF.cell (p := ⟨gC, m, none⟩) hg hgo).trans hcell
        have c7 := hM.C.cell 7 (by omega)
        have c1 := hM.C.cell 1 (by omega)
        have c10 := hM.C.cell 10 (by omega)
        have ck := hM.K.cell m (by omega)
        rw [hpm.ctr] at ck
        simp only [cC, slc] at c7 c1 c10
        rw [hn] at c7 c1 c10
        cases hp
        by_cases hk : -1 < z0 m
        · have hd : decide (-1 < z0 m) = true := decide_eq_true hk
          have HR : Calls Ybaf.prog 18 #[.pointer (some ⟨d.A, m * 2, none⟩), .int .i64 o, .int .i64 (z0 m), .int .i64 2] wr.drew fun e w2 => e = .returned (.bool true) ∧
              (w2.cell? ⟨d.C, 7, none⟩ = some (.slice (some ⟨d.K, 0, none⟩) 2 2) ∧ w2.cell? ⟨d.K, m, none⟩ = some (.int .i64 (-1)) ∧ w2.cell? ⟨d.C, 10, none⟩ = some (.slice (some ⟨d.A, 0, none⟩) 2 2) ∧ w2.cell? ⟨d.C, 1, none⟩ = some (.int .i64 2)) ∧
              Hid (Fr (Own d) wr w2 ∧ ∃ Q c, 1 ≤ c ∧ ¬ Own d Q ∧ One w2 Q o (z0 m) ∧ Mem d w2 { st with few := up st.few m (.slice (some ⟨Q, 0, none⟩) 1 c) }) := by
            refine (raise_nil d base HA.out m o (z0 m) st wr.drew (by omega) (hM.drewN 1) hpm.few).mono ?_
            rintro e w2 ⟨rfl, F2, Q, cc, hcc, hQ, h1, M2⟩
            have k7 := M2.C.cell 7 (by omega)
            have k1 := M2.C.cell 1 (by omega)
            have k10 := M2.C.cell 10 (by omega)
            have kk := M2.K.cell m (by omega)
            simp only [cC, slc, hn] at k7 k1 k10
            exact ⟨rfl, ⟨k7, kk.trans (by rw [show st.ctrs m = -1 from hpm.ctr]), k10, k1⟩, (Fr.refl (Own d) wr).drew.trans F2, Q, cc, hcc, hQ, h1, M2⟩
          have HK : Hid (Mem d wr st ∧ Bas d st ∧ Pre st m ∧ (∀ j, j < 2 → m ≤ j → Pre st j) ∧ ∀ j, j < 2 → j < m → st.ctrs j = wantC n0 z0 j) := ⟨hM, hBas, hpm, hPre, hCtr⟩
          have HF : Hid (Fr (Own d) wa wr) := hF
          clear hM hBas hPre hCtr hpm hF
          go_wp2_with fail
          go_region_held (fun w' => w'.cell? ⟨d.C, 7, none⟩ = some (.slice (some ⟨d.K, 0, none⟩) 2 2) ∧ w'.cell? ⟨d.K, m, none⟩ = some (.int .i64 (-1)) ∧ w'.cell? ⟨d.C, 10, none⟩ = some (.slice (some ⟨d.A, 0, none⟩) 2 2) ∧ w'.cell? ⟨d.C, 1, none⟩ = some (.int .i64 2)) (go_keep)
            (first | (go_at_call 18; refine HR.mono ?_; rintro e w2 ⟨rfl, ⟨k7, kk, k10, k1⟩, hH⟩))
          obtain ⟨F2, Q, cc, hcc, hQ, h1, M2⟩ := hH.out
          obtain ⟨hM, hBas, hpm, hPre, hCtr⟩ := HK.out
          have HRC := recount_one d base HA.out hn hf m Q cc o (z0 m) _ w2 (by omega) M2 (up_same _ _ _) hcc hQ h1 (by omega) hpm.ctr hpm.vch hpm.lb
          obtain ⟨u, hu, hu1, hu2⟩ := voted_rest { st with few := up st.few m (.slice (some ⟨Q, 0, none⟩) 1 cc) } m (z0 m)
          rw [hu] at HRC
          obtain ⟨a1, a2, a3⟩ := adv_two d { st with few := up st.few m (.slice (some ⟨Q, 0, none⟩) 1 cc), vch := u } m (z0 m) hn hf hsd hm2 (by omega) hpm.lb hBas.val (fun i v hi hv => ⟨(hBas.cl i v hi hv).c, (hBas.cl i v hi hv).e⟩)
          have HH : Hid (∀ w3, Fr (Own d) w2 w3 → Mem d w3 (advanceP d { st with few := up st.few m (.slice (some ⟨Q, 0, none⟩) 1 cc), vch := u } m (z0 m)) →
              Fr (Own d) wa w3 ∧ ∃ st, Mem d w3 st ∧ Bas d st ∧ (∀ j, j < 2 → m + 1 ≤ j → Pre st j) ∧ ∀ j, j < 2 → j < m + 1 → st.ctrs j = wantC n0 z0 j) := by
            intro w3 F3 M3
            refine ⟨(HF.out.trans F2).trans F3, _, M3, a1, fun j hj hmj => ?_, fun j hj hjm => ?_⟩
            · have hne : j ≠ m := by omega
              have hp := hPre j hj (by omega)
              exact a3 j hj hne ⟨(up_ne _ _ _ _ hne).trans hp.few, hp.ctr, by show -1 ≤ u j; rw [hu1 j hne]; exact hp.vch, hp.lb⟩
            · rw [a2]
              by_cases e : j = m
              · subst e
                rw [up_same, wantC, if_pos ⟨by omega, by omega⟩]
              · rw [up_ne _ _ _ _ e]
                exact hCtr j hj (by omega)
          clear HK HF hM hBas hpm hPre hCtr hH F2 h1 M2 a1 a2 a3 hu hu1 hu2 HR k7 kk k10 k1 c7 c1 c10 ck gc hcell hd
          go_wp2_with fail
          refine HRC.mono ?_
          rintro e w3 ⟨rfl, F3, M3⟩
          have HH3 := HH.out w3 F3 M3
          have HH4 : Hid (Fr (Own d) wa w3 ∧ ∃ st, Mem d w3 st ∧ Bas d st ∧ (∀ j, j < 2 → m + 1 ≤ j → Pre st j) ∧ ∀ j, j < 2 → j < m + 1 → st.ctrs j = wantC n0 z0 j) := HH3
          clear HH HH3 F3 M3 HRC
          go_wp2_with fail
          go_roundw
          case rel => exact ⟨m + 1, by omega, by go_num, HH4.out⟩
          case measure => simp [intOf]; omega
        · have hd : decide (-1 < z0 m) = false := decide_eq_false hk
          have HH : Hid (∀ q, Fr (Own d) wa (wr.drewN q) ∧ ∃ st, Mem d (wr.drewN q) st ∧ Bas d st ∧ (∀ j, j < 2 → m + 1 ≤ j → Pre st j) ∧ ∀ j, j < 2 → j < m + 1 → st.ctrs j = wantC n0 z0 j) := by
            intro q
            refine ⟨hF.drewN, st, hM.drewN q, hBas, fun j hj hmj => hPre j hj (by omega), fun j hj hjm => ?_⟩
            by_cases e : j = m
            · subst e
              rw [hpm.ctr, wantC, if_neg (fun hh => hk (by omega))]
            · exact hCtr j hj (by omega)
          clear hM hBas hPre hCtr hpm hF hk
          go_wp2_with fail
          go_quiet (fail)
          go_wp2_with fail
          go_roundw
          case rel => exact ⟨m + 1, by omega, by go_num, HH.out _⟩
          case measure => simp [intOf]; omega
      · obtain rfl : m = cnt := by omega
        have hpost : Post d (wantC n0 z0) z1 0 st := Post.start hBas (fun j hj => by
          by_cases e : j < m
          · exact hCtr j hj e
          · rw [(hPre j hj (by omega)).ctr, wantC, if_neg (by omega)])
        have b3' := (hF.cell (p := ⟨B, 3, none⟩) hBa hBo).trans b3
        have HS : Hid (Fr (Own d) wa wr ∧ ∃ st, Mem d wr st ∧ Post d (wantC n0 z0) z1 0 st) := ⟨hF, st, hM, hpost⟩
        clear hM hBas hPre hCtr hF hpost HC b3 b4
        go_wp2_with fail
        go_loopw [86] (fun x wr => ∃ m : Nat, m ≤ n1 ∧ x = .int .i64 m ∧ Fr (Own d) wa wr ∧ ∃ st, Mem d wr st ∧ Post d (wantC n0 z0) z1 m st) (fun x _ => n1 - (intOf x).toNat)
        case atStart => exact ⟨0, Nat.zero_le _, rfl, HS.out⟩
        case round =>
          clear HS
          obtain ⟨m', hm', rfl, hF, st, hM, hP⟩ := hrel
          by_cases hlt2 : m' < n1
          · obtain ⟨hp, hg, hgo, hcell⟩ := HE.out m' hlt2
            cases hp
            have e0 := (hF.cell (p := ⟨gE, m' * 3, none⟩) hg hgo).trans (hcell 0 (by omega))
            have e1 := (hF.cell (p := ⟨gE, m' * 3 + 1, none⟩) hg hgo).trans (hcell 1 (by omega))
            have e2 := (hF.cell (p := ⟨gE, m' * 3 + 2, none⟩) hg hgo).trans (hcell 2 (by omega))
            clear hcell
            obtain ⟨y0, hy0⟩ : ∃ y, z1 m' 0 = y := ⟨_, rfl⟩
            obtain ⟨y1, hy1⟩ : ∃ y, z1 m' 1 = y := ⟨_, rfl⟩
            obtain ⟨y2, hy2⟩ : ∃ y, z1 m' 2 = y := ⟨_, rfl⟩
            rw [hy0] at e0
            rw [hy1] at e1
            rw [hy2] at e2
            obtain ⟨wx, ex⟩ : ∃ wx, wr.alloc (.cells #[.int .i64 y0, .int .i64 y1, .int .i64 y2] 31) = wx := ⟨_, rfl⟩
            obtain ⟨X, hX⟩ : ∃ X, wr.heap.size = X := ⟨_, rfl⟩
            have Mx : Mem d wx st := ex ▸ hM.alloc _
            have Fx : Fr (Own d) wa wx := ex ▸ hF.alloc _
            have x0 : wx.cell? ⟨X, 0, none⟩ = some (.int .i64 y0) := by rw [← ex, World.cell?_alloc_at _ _ _ _ hX.symm]; rfl
            have x1 : wx.cell? ⟨X, 1, none⟩ = some (.int .i64 y1) := by rw [← ex, World.cell?_alloc_at _ _ _ _ hX.symm]; rfl
            have x2 : wx.cell? ⟨X, 2, none⟩ = some (.int .i64 y2) := by rw [← ex, World.cell?_alloc_at _ _ _ _ hX.symm]; rfl
            have c1 := Mx.C.cell 1 (by omega)
            have c7 := Mx.C.cell 7 (by omega)
            have c12 := Mx.C.cell 12 (by omega)
            simp only [cC, slc] at c1 c7 c12
            rw [hn] at c1 c7 c12
            have HSKm : Hid ((∀ j v : Nat, j < 2 → v < 2 → 0 ≤ wantC n0 z0 j → y0 = (j : Int) → y1 = (v : Int) → y2 = wantC n0 z0 j → st.cfm j v = true) → ∀ q, Fr (Own d) wa (wx.drewN q) ∧ ∃ st, Mem d (wx.drewN q) st ∧ Post d (wantC n0 z0) z1 (m' + 1) st) :=
              fun hno q => ⟨Fx.drewN, st, Mx.drewN q, hP.skip (by rw [hy0, hy1, hy2]; exact hno)⟩
            clear hM hF
            by_cases hA : 0 ≤ y0
            · by_cases hA2 : y0 < 2
              · obtain ⟨j, hyj⟩ : ∃ j : Nat, y0 = (j : Int) := ⟨y0.toNat, by omega⟩
                subst hyj
                have hj : j < 2 := by omega
                have hjd : (decide ((j : Int) < 2)) = true := decide_eq_true hA2
                have ck := Mx.K.cell j (by omega)
                have hctr := hP.ctr j hj
                by_cases hB2 : y2 = st.ctrs j
                · rw [← hB2] at ck
                  by_cases hC2 : 0 ≤ y2
                  · have hC3 : decide (0 ≤ y2) = true := decide_eq_true hC2
                    by_cases hD : y1 = 0 ∨ y1 = 1
                    · have HBn : ∀ w, Calls Ybaf.prog 13 #[.int .i64 y1] w fun e w' => e = .returned (.bool true) ∧ w' = w := fun w => by
                        have := binary_any y1 w
                        rw [decide_eq_true hD] at this
                        exact this
                      obtain ⟨v, hyv⟩ : ∃ v : Nat, y1 = (v : Int) := ⟨y1.toNat, by omega⟩
                      subst hyv
                      have hv : v < 2 := by omega
                      have t4 := Mx.tcell (j := j) (v := v) (k := 4) (by omega) hv (by omega)
                      simp only [rec5] at t4
                      cases hcf : st.cfm j v with
                      | true =>
                        rw [hcf] at t4
                        have HSK : Hid (∀ q, Fr (Own d) wa (wx.drewN q) ∧ ∃ st, Mem d (wx.drewN q) st ∧ Post d (wantC n0 z0) z1 (m' + 1) st) :=
                          HSKm.out (fun j' v' _ _ _ q1 q2 _ => by
                            obtain rfl : j = j' := by omega
                            obtain rfl : v = v' := by omega
                            exact hcf)
                        clear HSKm hP Mx Fx hD hctr hB2 hy0 hy1 hy2
                        go_wp2_with fail
                        go_quiet (first | (go_at_call 13; refine Calls.quiet_of_same (HBn _)))
                        go_wp2_with fail
                        go_roundw
                        case rel => exact ⟨m' + 1, by omega, by go_num, HSK.out _⟩
                        case measure => simp [intOf]; omega
                      | false =>
                        rw [hcf] at t4
                        have hcl := hP.cl j v hj hv hcf
                        have HHr := fun q => hear_any d base HA.out j v o st (wx.drewN q) (by omega) hv (by omega) (Mx.drewN q) (by rcases hcl.e with h | h <;> omega) (by rcases hcl.e with h | h <;> omega)
                        have hP1 := hP.hear hn hf hs hj hv hy0 hy1 (by rw [hy2, hB2, hctr]) (by rw [← hctr, ← hB2]; exact hC2) hcf
                        have HSK : Hid (∀ q w', Fr (Own d) (wx.drewN q) w' → Mem d w' (hearP d st j v o) → Fr (Own d) wa w' ∧ ∃ st, Mem d w' st ∧ Post d (wantC n0 z0) z1 (m' + 1) st) :=
                          fun q w' F M => ⟨(Fx.drewN (q := q)).trans F, _, M, hP1⟩
                        clear HSKm hP Mx Fx hD hcl hP1 hctr hB2 hy0 hy1 hy2
                        go_wp2_with fail
                        go_quiet (first | (go_at_call 13; refine Calls.quiet_of_same (HBn _)))
                        go_wp2_with fail
                        refine (HHr _).mono ?_
                        rintro e w5 ⟨rfl, F5, M5⟩
                        have HS5 := HSK.out _ w5 F5 M5
                        have HS6 : Hid (Fr (Own d) wa w5 ∧ ∃ st, Mem d w5 st ∧ Post d (wantC n0 z0) z1 (m' + 1) st) := HS5
                        clear HSK HS5 F5 M5 HHr
                        go_wp2_with fail
                        go_roundw
                        case rel => exact ⟨m' + 1, by omega, by go_num, HS6.out⟩
                        case measure => simp [intOf]; omega
                    · have HBn : ∀ w, Calls Ybaf.prog 13 #[.int .i64 y1] w fun e w' => e = .returned (.bool false) ∧ w' = w := fun w => by
                        have := binary_any y1 w
                        rw [decide_eq_false hD] at this
                        exact this
                      have HSK : Hid (∀ q, Fr (Own d) wa (wx.drewN q) ∧ ∃ st, Mem d (wx.drewN q) st ∧ Post d (wantC n0 z0) z1 (m' + 1) st) :=
                        HSKm.out (fun j' v' _ _ _ q1 q2 _ => absurd (by omega) hD)
                      clear HSKm hP Mx Fx hD hctr hB2 hy0 hy1 hy2
                      go_wp2_with fail
                      go_quiet (first | (go_at_call 13; refine Calls.quiet_of_same (HBn _)))
                      go_wp2_with fail
                      go_roundw
                      case rel => exact ⟨m' + 1, by omega, by go_num, HSK.out _⟩
                      case measure => simp [intOf]; omega
                  · have hC3 : decide (0 ≤ y2) = false := decide_eq_false hC2
                    have HSK : Hid (∀ q, Fr (Own d) wa (wx.drewN q) ∧ ∃ st, Mem d (wx.drewN q) st ∧ Post d (wantC n0 z0) z1 (m' + 1) st) :=
                      HSKm.out (fun j' v' _ _ q0 _ _ q3 => absurd (by omega) hC2)
                    clear HSKm hP Mx Fx hC2 hctr hB2 hy0 hy1 hy2
                    go_wp2_with fail
                    go_quiet (fail)
                    go_wp2_with fail
                    go_roundw
                    case rel => exact ⟨m' + 1, by omega, by go_num, HSK.out _⟩
                    case measure => simp [intOf]; omega
                · have hB3 : (y2 == st.ctrs j) = false := by simpa using hB2
                  have HSK : Hid (∀ q, Fr (Own d) wa (wx.drewN q) ∧ ∃ st, Mem d (wx.drewN q) st ∧ Post d (wantC n0 z0) z1 (m' + 1) st) :=
                    HSKm.out (fun j' v' _ _ q0 q1 _ q3 => by
                      obtain rfl : j = j' := by omega
                      exact absurd (by omega) hB2)
                  clear HSKm hP Mx Fx hB2 hctr hy0 hy1 hy2
                  go_wp2_with fail
                  go_quiet (fail)
                  go_wp2_with fail
                  go_roundw
                  case rel => exact ⟨m' + 1, by omega, by go_num, HSK.out _⟩
                  case measure => simp [intOf]; omega
              · have hA3 : decide (y0 < 2) = false := decide_eq_false hA2
                have hA4 : decide (0 ≤ y0) = true := decide_eq_true hA
                have HSK : Hid (∀ q, Fr (Own d) wa (wx.drewN q) ∧ ∃ st, Mem d (wx.drewN q) st ∧ Post d (wantC n0 z0) z1 (m' + 1) st) :=
                  HSKm.out (fun j' v' q4 _ q0 q1 _ q3 => absurd (by omega) hA2)
                clear HSKm hP Mx Fx hA2
                go_wp2_with fail
                go_quiet (fail)
                go_wp2_with fail
                go_roundw
                case rel => exact ⟨m' + 1, by omega, by go_num, HSK.out _⟩
                case measure => simp [intOf]; omega
            · have hA3 : decide (0 ≤ y0) = false := decide_eq_false hA
              have HSK : Hid (∀ q, Fr (Own d) wa (wx.drewN q) ∧ ∃ st, Mem d (wx.drewN q) st ∧ Post d (wantC n0 z0) z1 (m' + 1) st) :=
                HSKm.out (fun j' v' q4 _ q0 q1 _ q3 => absurd (by omega) hA)
              clear HSKm hP Mx Fx hA
              go_wp2_with fail
              go_quiet (fail)
              go_wp2_with fail
              go_roundw
              case rel => exact ⟨m' + 1, by omega, by go_num, HSK.out _⟩
              case measure => simp [intOf]; omega
          · obtain rfl : m' = n1 := by omega
            have HZ : Hid (Fr (Own d) w wr ∧ ∃ st, Mem d wr st ∧ Post d (wantC n0 z0) z1 m' st) := ⟨HFa.out.trans hF, st, hM, hP⟩
            clear hM hF hP
            go_wp2_with fail
            go_end0
            exact ⟨rfl, HZ.out⟩
end Go.Proofs.YbulkcwpuFmt
