/-
  The walk of '(*sweep).lowest' (function 8) over the seat's program: it gives 'g t' for every function g that follows the lower links.
-/
import Derived.Test.YbulkcwpuRows
import Derived.WalkKit
import Derived.WalkSpells
import Derived.WalkLawsBesides
namespace Go.Proofs.Ybulkcwpu
open Go.RowKit
set_option linter.unusedVariables false

theorem ret_int {k : IntKind} {a b : Int} (h : a = b) : Ending.returned (.int k a) = .returned (.int k b) := by rw [h]

set_option maxHeartbeats 400000 in
theorem lowest_any (lo : Nat → Int) (g : Int → Int) (P S n : Nat) (t : Int) (w : World) (hn : n ≤ 1024) (ht : t < n) (ht0 : -9223372036854775808 ≤ t)
    (hseg : w.cell? ⟨P, 5, none⟩ = some (.slice (some ⟨S, 0, none⟩) n n))
    (hlo : ∀ i, i < n → w.cell? ⟨S, i * 8 + 6, none⟩ = some (.int .i64 (lo i)))
    (hb : ∀ i, i < n → -1 ≤ lo i ∧ lo i < i)
    (HE : Hid (∀ t : Int, t < n → g t = if 0 ≤ t ∧ 0 ≤ lo t.toNat then g (lo t.toNat) else t)) :
    Calls Yba.prog 8 #[.pointer (some ⟨P, 0, none⟩), .int .i64 t] w fun e w' => e = .returned (.int .i64 (g t)) ∧ w' = w := by
  go_enter Yba.func8, Yba.ntmps8
  go_wp2
  go_loop [1] (fun x => ∃ u : Int, u < n ∧ -9223372036854775808 ≤ u ∧ Hid (g u = g t) ∧ x = .int .i64 u) (fun x => (intOf x).toNat)
  case atStart => exact ⟨t, ht, ht0, rfl, rfl⟩
  case round =>
    obtain ⟨u, hu, hu0, HG, rfl⟩ := hrel
    by_cases h0 : 0 ≤ u
    · obtain ⟨k, rfl⟩ : ∃ k : Nat, u = k := ⟨u.toNat, by omega⟩
      have hk : k < n := by omega
      have hc := hlo k hk
      have hbk := hb k hk
      by_cases h1 : 0 ≤ lo k
      · go_wp2
        go_round
        case rel =>
          refine ⟨lo k, by omega, by omega, ?_, rfl⟩
          have e := HE.out k (by omega)
          simp only [Int.toNat_natCast] at e
          rw [if_pos ⟨by omega, h1⟩] at e
          exact e.symm.trans HG.out
        case measure => simp [intOf]; omega
      · have h1' : lo k < 0 := by omega
        go_wp2
        go_ret
        refine ⟨ret_int ?_, rfl⟩
        have e := HE.out k (by omega)
        simp only [Int.toNat_natCast] at e
        rw [if_neg (by omega)] at e
        exact e.symm.trans HG.out
    · have h0' : u < 0 := by omega
      go_wp2
      go_ret
      refine ⟨ret_int ?_, rfl⟩
      have e := HE.out u (by omega)
      rw [if_neg (by omega)] at e
      exact e.symm.trans HG.out
end Go.Proofs.Ybulkcwpu
