/-
  The walk of 'zzs4908cdown' (function 9): it follows the lower links that the bytes give.
-/
import Derived.Test.YbulkcwpuLow
import Derived.Test.YbulkcwpuRow
namespace Go.Proofs.Ybulkcwpu
open Go.RowKit
set_option linter.unusedVariables false

/-- The lower link that byte z gives node i. -/
def link (z : Nat → Int) (i : Nat) : Int := z i % (i + 1) - 1
theorem link_bd (z : Nat → Int) (i : Nat) (h : 0 ≤ z i) : -1 ≤ link z i ∧ link z i < i := by
  unfold link
  have := Int.emod_nonneg (z i) (show ((i : Int) + 1) ≠ 0 by omega)
  have := Int.emod_lt_of_pos (z i) (show (0 : Int) < (i : Int) + 1 by omega)
  omega

theorem mod_bd (a : Int) (k : Nat) (h0 : 0 ≤ a) (h1 : a ≤ 255) : 0 ≤ a % ((k : Int) + 1) ∧ a % ((k : Int) + 1) ≤ 255 := by
  have e1 := Int.emod_nonneg a (show ((k : Int) + 1) ≠ 0 by omega)
  have e2 : a % ((k : Int) + 1) ≤ a := by
    obtain ⟨x, rfl⟩ : ∃ x : Nat, a = x := ⟨a.toNat, by omega⟩
    have := Nat.mod_le x (k + 1)
    have h : ((x : Int) % ((k : Int) + 1)) = ((x % (k + 1) : Nat) : Int) := by simp
    omega
  omega

set_option maxHeartbeats 400000 in
theorem down_any (z : Nat → Int) (b off n cap : Nat) (hn : n ≤ 1024) (hz : ∀ i, i < n → 0 ≤ z i ∧ z i ≤ 255) (f : Nat) : ∀ (k : Nat) (w : World), k < f → k < n →
    (∀ i, i < n → w.cell? ⟨b, off + i, none⟩ = some (.int .u8 (z i))) →
    Calls Yba.prog 9 #[.slice (some ⟨b, off, none⟩) n cap, .int .i64 k] w fun e w' => e = .returned (.int .i64 (lowG (link z) k)) ∧ w' = w := by
  induction f with
  | zero =>
    intro k w hk
    exact absurd hk (Nat.not_lt_zero _)
  | succ f ih =>
    intro k w hk hkn hc
    have c := hc k hkn
    have b0 := hz k hkn
    have e := lowG_eq (link z) n (fun i hi => (link_bd z i (hz i hi).1).2) k (by omega)
    simp only [Int.toNat_natCast] at e
    have bd := link_bd z k b0.1
    have mb := mod_bd (z k) k b0.1 b0.2
    by_cases hl : z k % ((k : Int) + 1) - 1 < 0
    · have HE : Hid (lowG (link z) k = k) := by rw [if_neg (by unfold link; omega)] at e; exact e
      clear e bd
      go_enter Yba.func9, Yba.ntmps9
      go_wp2_with fail
      go_ret
      exact ⟨ret_int HE.out.symm, rfl⟩
    · have HE : Hid (lowG (link z) k = lowG (link z) (link z k)) := by rw [if_pos (by unfold link; omega)] at e; exact e
      have hl0 : 0 ≤ link z k := by unfold link; omega
      obtain ⟨m, hm⟩ : ∃ m : Nat, link z k = m := ⟨(link z k).toNat, by omega⟩
      have hm' : Hid (z k % ((k : Int) + 1) - 1 = m) := hm
      have HE2 : Hid (lowG (link z) k = lowG (link z) m) := by rw [← hm]; exact HE
      have hmk : m < k := by omega
      have hl' : 0 ≤ z k % ((k : Int) + 1) - 1 := by omega
      clear e bd HE hl0 hm hl
      go_enter Yba.func9, Yba.ntmps9
      go_wp2_with fail
      rw [hm'.out]
      refine (ih m _ (by omega) (by omega) hc).mono ?_
      rintro e w' ⟨rfl, rfl⟩
      go_wp2_with fail
      go_ret
      exact ⟨ret_int HE2.out.symm, rfl⟩
end Go.Proofs.Ybulkcwpu
