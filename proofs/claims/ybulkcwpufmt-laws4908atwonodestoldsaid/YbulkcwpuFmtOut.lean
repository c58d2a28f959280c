/-
  The walks of 'stableSet' (function 21) and 'stableOutput' (function 16), at most six nodes.
-/
import Derived.Test.YbulkcwpuFmtSort
namespace Go.Proofs.YbulkcwpuFmt
open Go.RowKit Go.Lib
set_option linter.unusedVariables false

/-- How many of the first k places of the order hold a node whose value is 1. -/
def ones (vals : Nat → Int) (g : Nat → Int) : Nat → Int
  | 0 => 0
  | k + 1 => ones vals g k + if vals (g k).toNat = 1 then 1 else 0
theorem ones_bd (vals g : Nat → Int) (k : Nat) : 0 ≤ ones vals g k ∧ ones vals g k ≤ k := by
  induction k with
  | zero => simp [ones]
  | succ k ih => rw [ones]; split <;> omega
/-- What 'stableOutput' gives. -/
def SO (n f : Nat) (vals ct : Nat → Int) : Int := if (f : Int) + 1 ≤ ones vals (insOut (cOf ct) (n - 1)) (min (2 * f + 1) n) then 1 else 0

theorem make_ints (n : Nat) (hn : n ≤ 6) (w : World) :
    (Instr.makeSlice 22 (.int .i64 n) (.int .i64 n)).run Ybaf.prog w = .ok (.slice (some ⟨w.heap.size, 0, none⟩) n n) (w.alloc (.cells (madeCells #[.int .i64 0] n) 3)) := by
  obtain ⟨i0, hi, hz0, hz1, hz2⟩ := info_parts info3
  have r := run_make (P := Ybaf.prog) w 22 3 i0 _ Ybaf.underlying22 hi hz0 .i64 .i64 n n (by omega) (by omega) (by rw [hz2]; omega) (by omega)
  rw [hz1] at r
  simp only [Int.toNat_natCast, Nat.mul_one] at r
  exact r

theorem row_made (w : World) (z : Value) (t : TypeId) (n : Nat) : Row (w.alloc (.cells (madeCells #[z] n) t)) w.heap.size n (fun _ => z) := by
  have r := Row.new w (madeCells #[z] n) t
  rw [size_madeCells] at r
  refine r.congr fun j hj => ?_
  have e := toList_madeCells_one z n
  have : (madeCells #[z] n).getD j undef = ((madeCells #[z] n).toList[j]?).getD undef := by simp
  rw [this, e]
  simp [hj]

set_option maxRecDepth 20000 in
set_option maxHeartbeats 800000 in
theorem stableSet_any (K n f : Nat) (ct : Nat → Int) (w : World) (hn : n ≤ 6) (hn1 : 1 ≤ n) (hf : f < n) (hK : K < w.heap.size) (hk : ∀ t, t < n → w.cell? ⟨K, t, none⟩ = some (.int .i64 (ct t))) :
    Calls Ybaf.prog 21 #[.slice (some ⟨K, 0, none⟩) n n, .int .i64 f] w fun e w' => ∃ O, e = .returned (.slice (some ⟨O, 0, none⟩) (min (2 * f + 1) n) n) ∧ w.heap.size ≤ O ∧ O < w'.heap.size ∧ (∀ t, t < n → w'.cell? ⟨O, t, none⟩ = some (.int .i64 (insOut (cOf ct) (n - 1) t))) ∧ Below w.heap.size w w' := by
  have hmk := make_ints n hn (w.alloc (.cells #[.slice (some ⟨K, 0, none⟩) n n] 22))
  obtain ⟨w2, hw2⟩ : ∃ w2, w2 = (w.alloc (.cells #[.slice (some ⟨K, 0, none⟩) n n] 22)).alloc (.cells (madeCells #[.int .i64 0] n) 3) := ⟨_, rfl⟩
  have hb2 : Below w.heap.size w w2 := by rw [hw2]; exact ((Below.refl _ _).alloc (Nat.le_refl _) _).alloc (by simp) _
  have hz2 : w2.heap.size = w.heap.size + 2 := by rw [hw2]; simp
  have hr2 : Row w2 (w.heap.size + 1) n (fun _ => .int .i64 0) := by
    have r := row_made (w.alloc (.cells #[.slice (some ⟨K, 0, none⟩) n n] 22)) (.int .i64 0) 3 n
    rw [hw2]
    simpa using r
  have hc2 : w2.cell? ⟨w.heap.size, 0, none⟩ = some (.slice (some ⟨K, 0, none⟩) n n) := by rw [hw2]; simp
  rw [← hw2] at hmk
  clear hw2
  have HB : Hid (∀ o, Below w.heap.size w (w2.alloc o)) := fun o => hb2.alloc (by omega) o
  have HR : Hid (∀ o, Row (w2.alloc o) (w.heap.size + 1) n (fun _ => .int .i64 0)) := fun o => hr2.fr ((Fr.refl (fun _ => False) w2).alloc o) (by omega) (fun h => h)
  have HC : Hid (∀ o, (w2.alloc o).cell? ⟨w.heap.size, 0, none⟩ = some (.slice (some ⟨K, 0, none⟩) n n)) := fun o => ((((Fr.refl (fun _ => False) w2).alloc o).cell (p := ⟨w.heap.size, 0, none⟩) (by show w.heap.size < _; omega) (fun h => h))).trans hc2
  clear hb2 hr2 hc2
  go_enter Ybaf.func21, Ybaf.ntmps21
  go_wp2_with fail
  go_loopw [12] (fun x wr => ∃ k : Nat, k ≤ n ∧ x = .int .i64 k ∧ Below w.heap.size w wr ∧ wr.heap.size = w.heap.size + 3 ∧ wr.cell? ⟨w.heap.size, 0, none⟩ = some (.slice (some ⟨K, 0, none⟩) n n) ∧
      wr.cell? ⟨w.heap.size + 1 + 1, 0, none⟩ = some (.slice (some ⟨w.heap.size + 1, 0, none⟩) n n) ∧ ∃ h, Row wr (w.heap.size + 1) n h ∧ ∀ t, t < k → h t = .int .i64 t) (fun x _ => n - (intOf x).toNat)
  case atStart => exact ⟨0, Nat.zero_le _, rfl, HB.out _, by simp [hz2], HC.out _, by rw [World.cell?_alloc_at _ _ _ _ (by omega)]; rfl, _, HR.out _, fun t ht => absurd ht (Nat.not_lt_zero _)⟩
  case round =>
    obtain ⟨k, hk', rfl, hbl, hsz, hc1, hc2, h, hrow, hh⟩ := hrel
    by_cases hlt : k < n
    · have c1 := hrow.cell k hlt
      have f1 := hrow.free k hlt
      go_wp2_with fail
      go_roundw
      case rel =>
        refine ⟨k + 1, by omega, by go_num, hbl.setCell (by show w.heap.size ≤ w.heap.size + 1; omega) _, by simpa using hsz, ?_, ?_, _, hrow.set hlt _, fun t ht => ?_⟩
        · rw [World.cell?_setCell_other _ _ _ _ (by intro e; simp at e; try omega)]; exact hc1
        · rw [World.cell?_setCell_other _ _ _ _ (by intro e; simp at e; try omega)]; exact hc2
        · by_cases e : t = k
          · subst e; rw [upd_same]
          · rw [upd_ne _ _ _ _ e]; exact hh t (by omega)
      case measure => simp [intOf]; omega
    · have hkn : k = n := by omega
      subst hkn
      have hs : Srt wr w.heap.size (w.heap.size + 1 + 1) K (w.heap.size + 1) k ct (fun t => (t : Int)) :=
        ⟨hc1, hc2, fun t ht => (hbl.cell (p := ⟨K, t, none⟩) hK).trans (hk t ht), hrow.congr (fun t ht => hh t ht), by omega, by omega⟩
      have HS : Hid (Srt wr w.heap.size (w.heap.size + 1 + 1) K (w.heap.size + 1) k ct (fun t => (t : Int))) := hs
      clear hs hrow hh hc1
      go_wp2_with fail
      refine (sliceStable_any w.heap.size (w.heap.size + 1 + 1) K (w.heap.size + 1) k ct hn hn1 _ HS.out).mono ?_
      rintro e w' ⟨rfl, hs', hf'⟩
      have h5 := hs'.h5
      have H' : Hid (Srt w' w.heap.size (w.heap.size + 1 + 1) K (w.heap.size + 1) k ct (insOut (cOf ct) (k - 1))) := hs'
      have F' : Hid (Fr (· = w.heap.size + 1) wr w') := hf'
      clear hs' hf' hc2
      by_cases h2f : 2 * (f : Int) + 1 ≤ (k : Int)
      · have hmin : Hid (min (2 * f + 1) k = 2 * f + 1) := Nat.min_eq_left (by omega)
        go_wp2_with fail
        go_ret
        refine ⟨w.heap.size + 1, by rw [hmin.out]; rfl, by omega, H'.out.lt.2.2.2, fun t ht => H'.out.ho.cell t ht, ?_⟩
        exact hbl.trans (F'.out.below (by omega) (fun j hj e => by omega))
      · have hmin : Hid (min (2 * f + 1) k = k) := Nat.min_eq_right (by omega)
        have h2f' : (k : Int) < 2 * (f : Int) + 1 := by omega
        go_wp2_with fail
        go_ret
        refine ⟨w.heap.size + 1, by rw [hmin.out]; rfl, by omega, H'.out.lt.2.2.2, fun t ht => H'.out.ho.cell t ht, ?_⟩
        exact hbl.trans (F'.out.below (by omega) (fun j hj e => by omega))

set_option maxRecDepth 20000 in
set_option maxHeartbeats 800000 in
theorem stableOutput_any (V K n f : Nat) (vals ct : Nat → Int) (w : World) (hn : n ≤ 6) (hn1 : 1 ≤ n) (hf : f < n) (hK : K < w.heap.size) (hV : V < w.heap.size) (hk : ∀ t, t < n → w.cell? ⟨K, t, none⟩ = some (.int .i64 (ct t)))
    (hv : ∀ t, t < n → w.cell? ⟨V, t, none⟩ = some (.int .i64 (vals t))) :
    Calls Ybaf.prog 16 #[.slice (some ⟨V, 0, none⟩) n n, .slice (some ⟨K, 0, none⟩) n n, .int .i64 f] w fun e w' => e = .returned (.int .i64 (SO n f vals ct)) ∧ Below w.heap.size w w' := by
  have hin := in_insOut (n := n) (cOf ct) (n - 1) (by omega)
  obtain ⟨g, hg⟩ : ∃ g, g = insOut (cOf ct) (n - 1) := ⟨_, rfl⟩
  have HSO : Hid (SO n f vals ct = if (f : Int) + 1 ≤ ones vals g (min (2 * f + 1) n) then 1 else 0) := by rw [hg]; rfl
  rw [← hg] at hin
  obtain ⟨m, hm⟩ : ∃ m, m = min (2 * f + 1) n := ⟨_, rfl⟩
  have hmn : m ≤ n := by omega
  have HM : Hid (m = min (2 * f + 1) n) := hm
  have HG : Hid (g = insOut (cOf ct) (n - 1)) := hg
  clear hg hm
  go_enter Ybaf.func16, Ybaf.ntmps16
  go_wp2_with fail
  refine (stableSet_any K n f ct _ hn hn1 hf hK hk).mono ?_
  rw [← HM.out, ← HG.out]
  rintro e w' ⟨O, rfl, hO1, hO2, ho, hb⟩
  have hv' : ∀ t, t < n → w'.cell? ⟨V, t, none⟩ = some (.int .i64 (vals t)) := fun t ht => (hb.cell (p := ⟨V, t, none⟩) hV).trans (hv t ht)
  clear hv hk
  go_wp2_with fail
  go_loop [7, 14] (fun y x => ∃ k : Nat, k ≤ m ∧ x = .int .i64 k ∧ y = .int .i64 (ones vals g k)) (fun _ x => m - (intOf x).toNat)
  case atStart => exact ⟨0, Nat.zero_le _, rfl, rfl⟩
  case round =>
    obtain ⟨k, hk, rfl, rfl⟩ := hrel
    have hbd := ones_bd vals g k
    by_cases hlt : k < m
    · have c1 := ho k (by omega)
      have hgk := hin k (by omega)
      obtain ⟨a, ha⟩ : ∃ a : Nat, g k = a := ⟨(g k).toNat, by omega⟩
      rw [ha] at c1 hgk
      have c2 := hv' a (by omega)
      have hones : Hid (ones vals g (k + 1) = ones vals g k + if vals a = 1 then 1 else 0) := by
        show ones vals g (k + 1) = _
        rw [ones, ha]; rfl
      clear ha
      by_cases h1 : vals a = 1
      · have h1' : (vals a == 1) = true := by simpa using h1
        have HH : Hid (ones vals g (k + 1) = ones vals g k + 1) := by
          have := hones.out
          rw [if_pos h1] at this
          exact this
        clear h1 hones
        go_wp2_with fail
        go_round
        case rel => exact ⟨k + 1, by omega, by go_num, by rw [HH.out]⟩
        case measure => simp [intOf]; omega
      · have h1' : (vals a == 1) = false := by simpa using h1
        have HH : Hid (ones vals g (k + 1) = ones vals g k) := by
          have := hones.out
          rw [if_neg h1, Int.add_zero] at this
          exact this
        clear h1 hones
        go_wp2_with fail
        go_round
        case rel => exact ⟨k + 1, by omega, by go_num, by rw [HH.out]⟩
        case measure => simp [intOf]; omega
    · have hkm : k = m := by omega
      subst hkm
      by_cases hge : (f : Int) + 1 ≤ ones vals g k
      · have HE : Hid (SO n f vals ct = 1) := by
          have := HSO.out
          rw [← HM.out, if_pos hge] at this
          exact this
        go_wp2_with fail
        go_ret
        exact ⟨ret_int HE.out.symm, hb⟩
      · have HE : Hid (SO n f vals ct = 0) := by
          have := HSO.out
          rw [← HM.out, if_neg hge] at this
          exact this
        have hge' : ones vals g k < (f : Int) + 1 := by omega
        go_wp2_with fail
        go_ret
        exact ⟨ret_int HE.out.symm, hb⟩
end Go.Proofs.YbulkcwpuFmt
