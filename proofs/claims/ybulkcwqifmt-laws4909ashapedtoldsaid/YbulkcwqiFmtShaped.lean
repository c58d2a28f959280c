/-
  The walk of 'LawS4909AShaped' (function 4), for at most 1024 values.
-/
import Derived.Test.YbulkcwqiFmtCheck
namespace Go.Proofs.YbulkcwqiFmt
open Go.RowKit
set_option linter.unusedVariables false

/-- A row of numbers of the call's own. -/
structure Nums (w : World) (S n : Nat) (z : Nat → Int) : Prop where
  cell : ∀ i, i < n → w.cell? ⟨S, i, none⟩ = some (.int .u64 (z i))
  free : ∀ i, i < n → w.frozen? ⟨S, i, none⟩ = false

theorem Nums.set {w : World} {S n : Nat} {z : Nat → Int} (h : Nums w S n z) {p : Nat} (hp : p < n) (v : Int) : Nums (w.setCell ⟨S, p, none⟩ (.int .u64 v)) S n (fun i => if i = p then v else z i) := by
  refine ⟨fun j hj => ?_, fun j hj => (World.frozen?_setCell ..).trans (h.free j hj)⟩
  by_cases e : j = p
  · subst e; simp only [if_true]; exact World.cell?_setCell_same _ _ _ (h.cell j hj)
  · rw [World.cell?_setCell_other _ _ _ _ (by intro h; cases h; exact e rfl), if_neg e]; exact h.cell j hj

theorem nums_made (w : World) (n : Nat) : Nums (w.alloc (.cells (madeCells #[.int .u64 0] n) 27)) w.heap.size n (fun _ => 0) := by
  refine ⟨fun j hj => ?_, fun j hj => World.frozen?_alloc_at _ _ _ _ rfl⟩
  rw [World.cell?_alloc_at _ _ _ _ rfl]
  have e := toList_madeCells_one (.int .u64 0) n
  have : (madeCells #[.int .u64 0] n)[j]? = (madeCells #[.int .u64 0] n).toList[j]? := by simp
  rw [this, e]
  simp [hj]

theorem step_below {B p : Nat} {w w' : World} {v : Value} (h : Below B w w') : Below B w (w'.setCell ⟨B, p, none⟩ v) := h.setCell (p := ⟨B, p, none⟩) (Nat.le_refl _) v

set_option maxRecDepth 20000 in
set_option maxHeartbeats 2000000 in
theorem shaped_any (x y : Nat → Int) (a0 a1 : Option Addr) (b off n cap b1 off1 m cap1 : Nat) (w : World) (hn : n ≤ 1024) (hm : m ≤ 9223372036854775807)
    (hx : ∀ i, i < n → 0 ≤ x i ∧ x i ≤ 4294967295) (hy : ∀ i, i < m → 0 ≤ y i ∧ y i ≤ 255)
    (hc : ∀ i, i < n → a0 = some ⟨b, off, none⟩ ∧ b < w.heap.size ∧ w.cell? ⟨b, off + i, none⟩ = some (.int .u32 (x i)))
    (hk : ∀ i, i < m → a1 = some ⟨b1, off1, none⟩ ∧ b1 < w.heap.size ∧ w.cell? ⟨b1, off1 + i, none⟩ = some (.int .u8 (y i))) :
    Calls Ybaf.prog 4 #[.slice a0 n cap, .slice a1 m cap1] w fun e w' => e = .returned (.bool true) ∧ Below w.heap.size w w' := by
  have hmk := make_offs n hn w
  have hd : decide ((1024 : Int) < (n : Int)) = false := decide_eq_false (by omega)
  have HN : Hid (Nums (w.alloc (.cells (madeCells #[.int .u64 0] n) 27)) w.heap.size n (fun _ => 0)) := nums_made w n
  have HB : Hid (Below w.heap.size w (w.alloc (.cells (madeCells #[.int .u64 0] n) 27))) := (Below.refl w.heap.size w).alloc (Nat.le_refl _) _
  go_enter Ybaf.func4, Ybaf.ntmps4
  go_wp2_with fail
  go_loopw [18] (fun i wr => ∃ k : Nat, k ≤ n ∧ i = .int .i64 k ∧ Below w.heap.size w wr ∧ wr.heap.size = w.heap.size + 1 ∧ ∃ z, Nums wr w.heap.size n z) (fun i _ => n - (intOf i).toNat)
  case atStart => exact ⟨0, Nat.zero_le _, rfl, HB.out, by simp, _, HN.out⟩
  case round =>
    obtain ⟨k, hkn, rfl, hbl, hsz, z, hnum⟩ := hrel
    by_cases hlt : k < n
    · obtain ⟨rfl, hb, hck⟩ := hc k hlt
      have c1 : wr.cell? ⟨b, off + k, none⟩ = some (.int .u32 (x k)) := (hbl.cell (p := ⟨b, off + k, none⟩) hb).trans hck
      have c2 := hnum.cell k hlt
      have f2 := hnum.free k hlt
      have hxk := hx k hlt
      have hb' : b ≠ w.heap.size := by omega
      by_cases hm0 : 0 < m
      · have hml : k % m < m := Nat.mod_lt _ hm0
        obtain ⟨rfl, hb1, hck1⟩ := hk (k % m) hml
        have c3 : wr.cell? ⟨b1, off1 + k % m, none⟩ = some (.int .u8 (y (k % m))) := (hbl.cell (p := ⟨b1, off1 + k % m, none⟩) hb1).trans hck1
        have hyk := hy (k % m) hml
        generalize y (k % m) = d at c3 hyk
        have hb1' : b1 ≠ w.heap.size := by omega
        have m0 : (0 : Int) < (m : Int) := by omega
        have m1 : ((k % m : Nat) : Int) = (k : Int) % (m : Int) := by simp
        rcases (show d % 5 = 0 ∨ d % 5 = 1 ∨ d % 5 = 2 ∨ d % 5 = 3 ∨ d % 5 = 4 by omega) with h5 | h5 | h5 | h5 | h5
        all_goals
          go_wp2_with fail
          go_roundw
          case rel => exact ⟨k + 1, by omega, by go_num, step_below hbl, by simpa using hsz, _, hnum.set hlt _⟩
          case measure => simp [intOf]; omega
      · have hd0 : decide ((0 : Int) < (m : Int)) = false := decide_eq_false (by omega)
        go_wp2_with fail
        go_roundw
        case rel => exact ⟨k + 1, by omega, by go_num, step_below hbl, by simpa using hsz, _, hnum.set hlt _⟩
        case measure => simp [intOf]; omega
    · have HC : Hid (Calls Ybaf.prog 6 #[.slice (some ⟨w.heap.size, 0, none⟩) n n] wr fun e w' => e = .returned (.bool true) ∧ Below wr.heap.size wr w') :=
        check_any z _ w.heap.size 0 n n wr hn (fun i hi => ⟨rfl, by omega, by rw [Nat.zero_add]; exact hnum.cell i hi⟩)
      clear hnum
      go_wp2_with fail
      refine HC.out.mono ?_
      rintro e w' ⟨rfl, hb⟩
      go_wp2_with fail
      go_ret
      exact ⟨rfl, hbl.trans (hb.mono (by omega))⟩
end Go.Proofs.YbulkcwqiFmt
