/-
  The walks of '(*sweep).highest' (function 11) and '(*sweep).merge' (function 10), of a tree over 0 .. i-1 and the node i.
-/
import Derived.Test.YbulkcwpuLow
import Derived.Test.YbulkcwpuTreap
import Derived.Deep.QuietTactic
import Derived.BigQuiet
import Derived.Deep.DrawnRows
import Derived.Deep.RegionWith
import Derived.BigRegion
namespace Go.Proofs.Ybulkcwpu
open Go.RowKit
set_option linter.unusedVariables false
attribute [local go_sem ↓] Go.wp_at_zero Go.wp_at_succ

set_option maxHeartbeats 400000 in
theorem highest_any (hi : Nat → Int) (g : Int → Int) (P S n : Nat) (t : Int) (w : World) (hn : n ≤ 1024) (ht : t < n) (ht0 : -9223372036854775808 ≤ t)
    (hseg : w.cell? ⟨P, 5, none⟩ = some (.slice (some ⟨S, 0, none⟩) n n))
    (hhi : ∀ i, i < n → w.cell? ⟨S, i * 8 + 7, none⟩ = some (.int .i64 (hi i)))
    (hb : ∀ i, i < n → -1 ≤ hi i ∧ (0 ≤ hi i → (i : Int) < hi i ∧ hi i < n))
    (HE : Hid (∀ t : Int, t < n → g t = if 0 ≤ t ∧ 0 ≤ hi t.toNat then g (hi t.toNat) else t)) :
    Calls Yba.prog 11 #[.pointer (some ⟨P, 0, none⟩), .int .i64 t] w fun e w' => e = .returned (.int .i64 (g t)) ∧ w' = w := by
  go_enter Yba.func11, Yba.ntmps11
  go_wp2
  go_loop [1] (fun x => ∃ u : Int, u < n ∧ -9223372036854775808 ≤ u ∧ Hid (g u = g t) ∧ x = .int .i64 u) (fun x => n - (intOf x).toNat)
  case atStart => exact ⟨t, ht, ht0, rfl, rfl⟩
  case round =>
    obtain ⟨u, hu, hu0, HG, rfl⟩ := hrel
    by_cases h0 : 0 ≤ u
    · obtain ⟨k, rfl⟩ : ∃ k : Nat, u = k := ⟨u.toNat, by omega⟩
      have hk : k < n := by omega
      have hc := hhi k hk
      have hbk := hb k hk
      by_cases h1 : 0 ≤ hi k
      · have hb1 := hbk.2 h1
        go_wp2
        go_round
        case rel =>
          refine ⟨hi k, by omega, by omega, ?_, rfl⟩
          have e := HE.out k (by omega)
          simp only [Int.toNat_natCast] at e
          rw [if_pos ⟨by omega, h1⟩] at e
          exact e.symm.trans HG.out
        case measure => simp [intOf]; omega
      · have h1' : hi k < 0 := by omega
        go_wp2
        go_ret
        refine ⟨ret_int ?_, rfl⟩
        have e := HE.out k (by omega)
        simp only [Int.toNat_natCast] at e
        rw [if_neg (by omega)] at e
        exact e.symm.trans HG.out
    · have h0' : u < 0 := by omega
      go_wp2
      go_ret
      refine ⟨ret_int ?_, rfl⟩
      have e := HE.out u (by omega)
      rw [if_neg (by omega)] at e
      exact e.symm.trans HG.out

/-- The tree's links and priorities lie in block S. -/
structure Tr (w : World) (S n : Nat) (pr lo hi : Nat → Int) : Prop where
  prc : ∀ i, i < n → w.cell? ⟨S, i * 8 + 5, none⟩ = some (.int .u64 (pr i))
  loc : ∀ i, i < n → w.cell? ⟨S, i * 8 + 6, none⟩ = some (.int .i64 (lo i))
  hic : ∀ i, i < n → w.cell? ⟨S, i * 8 + 7, none⟩ = some (.int .i64 (hi i))
  lof : ∀ i, i < n → w.frozen? ⟨S, i * 8 + 6, none⟩ = false
  hif : ∀ i, i < n → w.frozen? ⟨S, i * 8 + 7, none⟩ = false

theorem Tr.drewN {w : World} {S n k : Nat} {pr lo hi : Nat → Int} (h : Tr w S n pr lo hi) : Tr (w.drewN k) S n pr lo hi := ⟨h.prc, h.loc, h.hic, h.lof, h.hif⟩
theorem Tr.drew {w : World} {S n : Nat} {pr lo hi : Nat → Int} (h : Tr w S n pr lo hi) : Tr w.drew S n pr lo hi := ⟨h.prc, h.loc, h.hic, h.lof, h.hif⟩

theorem far (w : World) (S p q : Nat) (v : Value) (h : p ≠ q) : (w.setCell ⟨S, p, none⟩ v).cell? ⟨S, q, none⟩ = w.cell? ⟨S, q, none⟩ :=
  World.cell?_setCell_other _ _ _ _ (by intro e; cases e; exact h rfl)

theorem Tr.setLo {w : World} {S n a : Nat} {pr lo hi : Nat → Int} (h : Tr w S n pr lo hi) (ha : a < n) (v : Int) : Tr (w.setCell ⟨S, a * 8 + 6, none⟩ (.int .i64 v)) S n pr (updI lo a v) hi := by
  refine ⟨fun i hi => ?_, fun i hi => ?_, fun i hi => ?_, fun i hi => (World.frozen?_setCell ..).trans (h.lof i hi), fun i hi => (World.frozen?_setCell ..).trans (h.hif i hi)⟩
  · rw [far _ _ _ _ _ (by omega)]; exact h.prc i hi
  · by_cases e : i = a
    · subst e; rw [updI_same]; exact World.cell?_setCell_same _ _ _ (h.loc i hi)
    · rw [far _ _ _ _ _ (by omega), updI_ne _ _ _ _ e]; exact h.loc i hi
  · rw [far _ _ _ _ _ (by omega)]; exact h.hic i hi

theorem Tr.setHi {w : World} {S n a : Nat} {pr lo hi : Nat → Int} (h : Tr w S n pr lo hi) (ha : a < n) (v : Int) : Tr (w.setCell ⟨S, a * 8 + 7, none⟩ (.int .i64 v)) S n pr lo (updI hi a v) := by
  refine ⟨fun i hi => ?_, fun i hi => ?_, fun i hi => ?_, fun i hi => (World.frozen?_setCell ..).trans (h.lof i hi), fun i hi => (World.frozen?_setCell ..).trans (h.hif i hi)⟩
  · rw [far _ _ _ _ _ (by omega)]; exact h.prc i hi
  · rw [far _ _ _ _ _ (by omega)]; exact h.loc i hi
  · by_cases e : i = a
    · subst e; rw [updI_same]; exact World.cell?_setCell_same _ _ _ (h.hic i hi)
    · rw [far _ _ _ _ _ (by omega), updI_ne _ _ _ _ e]; exact h.hic i hi

theorem away {w : World} {P S p q : Nat} {v : Value} (h : P ≠ S) : (w.setCell ⟨S, p, none⟩ v).cell? ⟨P, q, none⟩ = w.cell? ⟨P, q, none⟩ := World.cell?_setCell_other _ _ _ _ (by intro e; cases e; exact h rfl)
theorem below_in {S p : Nat} {w w' : World} {v : Value} (h : Below S w w') : Below S w (w'.setCell ⟨S, p, none⟩ v) := h.setCell (p := ⟨S, p, none⟩) (Nat.le_refl _) v
theorem below_dr {B n : Nat} {w w' : World} (h : Below B w w') : Below B w (w'.drewN n) := ⟨h.os, h.tape, h.output, h.size, h.block⟩

/-- 'merge' of a tree and the empty one. -/
theorem merge_none (p : Value) (a b : Int) (w : World) (ha : 0 ≤ a) (hb : b < 0) :
    Calls Yba.prog 10 #[p, .int .i64 a, .int .i64 b] w fun e w' => e = .returned (.int .i64 a) ∧ w' = w := by
  go_enter Yba.func10, Yba.ntmps10
  go_wp2_with fail
  go_ret
  exact ⟨rfl, rfl⟩

set_option maxHeartbeats 1000000 in
theorem merge_any (n i P S : Nat) (hP : P ≠ S) (hn : n ≤ 1024) (hin : i < n) (pr : Nat → Int) (f : Nat) : ∀ (a : Int) (lo hi : Nat → Int) (w : World),
    -1 ≤ a → a < i → (a < 0 ∨ i - a.toNat ≤ f) → TInv n i lo hi → Tr w S n pr lo hi → w.cell? ⟨P, 5, none⟩ = some (.slice (some ⟨S, 0, none⟩) n n) →
    Calls Yba.prog 10 #[.pointer (some ⟨P, 0, none⟩), .int .i64 a, .int .i64 i] w fun e w' => ∃ r lo' hi', e = .returned (.int .i64 r) ∧ MPost n i a lo hi lo' hi' r ∧ Tr w' S n pr lo' hi' ∧ Below S w w' ∧ w'.cell? ⟨P, 5, none⟩ = some (.slice (some ⟨S, 0, none⟩) n n) := by
  induction f with
  | zero =>
    intro a lo hi w ha1 hai haf hinv htr hc
    have h0 : a < 0 := by omega
    have hp := post_neg (a := a) hinv hin h0
    have HP : Hid (MPost n i a lo hi lo hi i) := hp
    clear hp hinv
    go_enter Yba.func10, Yba.ntmps10
    go_wp2_with fail
    go_ret
    exact ⟨i, lo, hi, rfl, HP, htr, Below.refl _ _, hc⟩
  | succ f ih =>
    intro a lo hi w ha1 hai haf hinv htr hc
    by_cases h0 : a < 0
    · have hp := post_neg (a := a) hinv hin h0
      have HP : Hid (MPost n i a lo hi lo hi i) := hp
      clear hp hinv
      go_enter Yba.func10, Yba.ntmps10
      go_wp2_with fail
      go_ret
      exact ⟨i, lo, hi, rfl, HP, htr, Below.refl _ _, hc⟩
    · obtain ⟨x, rfl⟩ : ∃ x : Nat, a = x := ⟨a.toNat, by omega⟩
      have hxi : x < i := by omega
      have cp := htr.prc x (by omega)
      have cpi := htr.prc i hin
      have ch := htr.hic x (by omega)
      have cl := htr.loc i hin
      have fh := htr.hif x (by omega)
      have fl := htr.lof i hin
      have b1 : (0 : Int) ≤ (x : Int) := by omega
      have b2 : (x : Int) < (n : Int) := by omega
      have b3 : (0 : Int) ≤ (i : Int) := by omega
      have b4 : (i : Int) < (n : Int) := by omega
      have hii := hinv.his x (by omega)
      by_cases hpr : pr i < pr x
      · go_enter Yba.func10, Yba.ntmps10
        go_wp2_with fail
        go_quiet (fail)
        go_wp2_with fail
        have q1 : -1 ≤ hi x := hii.1
        have q2 : hi x < i := by omega
        have q3 : hi x < 0 ∨ i - (hi x).toNat ≤ f := by omega
        have HI : Hid (TInv n i lo hi) := hinv
        have q4 : hi x < 0 ∨ (x : Int) < hi x := by omega
        clear hinv hii cpi cl fl hpr haf
        go_region_with
          ((go_at_call 10; refine (ih (hi x) lo hi _ q1 q2 q3 HI.out (by exact ⟨htr.prc, htr.loc, htr.hic, htr.lof, htr.hif⟩) (by exact hc)).mono ?_; rintro e w' ⟨r, lo', hi', rfl, hp, htr', hbl, hc'⟩; have ch' : w'.cell? ⟨S, x * 8 + 7, none⟩ = some (.int .i64 (hi x)) := (htr'.hic x (by omega)).trans (by rw [hp.fhi x hxi q4]); have fh' := htr'.hif x (by omega)))
        all_goals
          go_wp2_with fail
          go_ret
          refine ⟨x, lo', updI hi' x r, rfl, post_high HI.out hin hxi hp, htr'.setHi (by omega) r, ?_, ?_⟩
          · have hbl' : Below S w w' := ⟨hbl.os, hbl.tape, hbl.output, hbl.size, hbl.block⟩
            exact below_in hbl'
          · rw [away hP]; exact hc'
      · have hlo : lo i = -1 := (hinv.alone i (Nat.le_refl _) hin).1
        rw [hlo] at cl
        have hpl := post_low hinv hin hxi
        have HP : Hid (MPost n i x lo hi (updI lo i x) hi i) := hpl
        clear hinv hii ch fh haf hlo hpl
        go_enter Yba.func10, Yba.ntmps10
        go_wp2_with fail
        go_quiet (fail)
        go_wp2_with fail
        go_region_with
          ((go_at_call 10; refine (merge_none _ _ _ _ b1 (by decide)).mono ?_; rintro e w' ⟨rfl, rfl⟩))
        all_goals
          go_wp2_with fail
          go_ret
          refine ⟨i, updI lo i x, hi, rfl, HP.out, htr.drewN.setLo hin x, ?_, ?_⟩
          · exact below_in (below_dr (Below.refl S w))
          · rw [away hP]; exact hc
end Go.Proofs.Ybulkcwpu
