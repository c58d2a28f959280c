/-
  The walks of 'Confirmed' (9), 'zzs4908asameints' (11) and 'zzs4908asameclaims' (12).
-/
import Derived.Test.YbulkcwpuFmtVote
namespace Go.Proofs.YbulkcwpuFmt
open Go.RowKit Go.Lib
set_option linter.unusedVariables false

theorem eql_nil27 (W : World) (a : Option Addr) (n c : Nat) : (binOp .eql 27 (.slice a n c) (.slice none 0 0)).run Ybaf.prog W = .ok (.bool a.isNone) W := by
  simp only [binOp]
  simp [Op.equal, Op.maxDepth, Lib.run_equalIn_slice_nil W 9999 27 31 a n c 0 0 Ybaf.underlying27]

set_option maxRecDepth 20000 in
set_option maxHeartbeats 800000 in
theorem confirmed_any (d : Nd) (st : St) (j : Nat) (w : World) (hj : j < d.n) (hM : Mem d w st) :
    Calls Ybaf.prog 9 #[.pointer (some ⟨d.C, 0, none⟩), .int .i64 j] w fun e w' => ∃ q, e = .returned (.tuple #[.int .i64 (st.vals j), .int .i64 (st.ctrs j)]) ∧ w' = w.drewN q := by
  have c6 := hM.C.cell 6 (by omega)
  have c7 := hM.C.cell 7 (by omega)
  have v0 := hM.V.cell j hj
  have k0 := hM.K.cell j hj
  simp only [cC, slc] at c6 c7
  clear hM
  go_enter Ybaf.func9, Ybaf.ntmps9
  go_wp2_with fail
  go_quiet (fail)
  go_wp2_with fail
  go_ret2
  exact ⟨_, rfl, rfl⟩

set_option maxRecDepth 20000 in
set_option maxHeartbeats 800000 in
theorem sameints_any (z : Nat → Int) (a0 a1 : Option Addr) (n c0 c1 b0 b1 o0 o1 : Nat) (w : World) (hn : n ≤ 1024) (hnil : a0.isNone = a1.isNone)
    (h0 : ∀ i, i < n → a0 = some ⟨b0, o0, none⟩ ∧ w.cell? ⟨b0, o0 + i, none⟩ = some (.int .i64 (z i)))
    (h1 : ∀ i, i < n → a1 = some ⟨b1, o1, none⟩ ∧ w.cell? ⟨b1, o1 + i, none⟩ = some (.int .i64 (z i))) :
    Calls Ybaf.prog 11 #[.slice a0 n c0, .slice a1 n c1] w fun e w' => ∃ q, e = .returned (.bool true) ∧ w' = w.drewN q := by
  have e0 := fun W => eql_nil22 W a0 n c0
  have e1 := fun W => eql_nil22 W a1 n c1
  rw [← hnil] at e1
  obtain ⟨B, hB⟩ : ∃ B, a0.isNone = B := ⟨_, rfl⟩
  rw [hB] at e0 e1
  have hBB : (B != B) = false := by cases B <;> rfl
  have H0 : Hid (∀ i, i < n → a0 = some ⟨b0, o0, none⟩ ∧ w.cell? ⟨b0, o0 + i, none⟩ = some (.int .i64 (z i))) := h0
  have H1 : Hid (∀ i, i < n → a1 = some ⟨b1, o1, none⟩ ∧ w.cell? ⟨b1, o1 + i, none⟩ = some (.int .i64 (z i))) := h1
  clear h0 h1 hnil hB
  go_enter Ybaf.func11, Ybaf.ntmps11
  go_wp2_with (first | simp only [e0] | simp only [e1])
  go_loopw [20] (fun x wr => ∃ m : Nat, m ≤ n ∧ x = .int .i64 m ∧ ∃ q, wr = w.drewN q) (fun x _ => n - (intOf x).toNat)
  case atStart => exact ⟨0, Nat.zero_le _, rfl, 0, rfl⟩
  case round =>
    obtain ⟨m, hm, rfl, q, rfl⟩ := hrel
    by_cases hlt : m < n
    · obtain ⟨p0, x0⟩ := H0.out m hlt
      obtain ⟨p1, x1⟩ := H1.out m hlt
      cases p0
      cases p1
      go_wp2_with fail
      go_quiet (fail)
      go_wp2_with fail
      go_roundw
      case rel => exact ⟨m + 1, by omega, by go_num, _, rfl⟩
      case measure => simp [intOf]; omega
    · obtain rfl : m = n := by omega
      go_wp2_with fail
      go_ret
      exact ⟨_, rfl, rfl⟩

set_option maxRecDepth 20000 in
set_option maxHeartbeats 800000 in
theorem sameclaims_any (z : Nat → Nat → Int) (a0 a1 : Option Addr) (n c0 c1 b0 b1 o0 o1 : Nat) (w : World) (hn : n ≤ 1024) (hnil : a0.isNone = a1.isNone)
    (h0 : ∀ i, i < n → a0 = some ⟨b0, o0, none⟩ ∧ ∀ k, k < 3 → w.cell? ⟨b0, o0 + i * 3 + k, none⟩ = some (.int .i64 (z i k)))
    (h1 : ∀ i, i < n → a1 = some ⟨b1, o1, none⟩ ∧ ∀ k, k < 3 → w.cell? ⟨b1, o1 + i * 3 + k, none⟩ = some (.int .i64 (z i k))) :
    Calls Ybaf.prog 12 #[.slice a0 n c0, .slice a1 n c1] w fun e w' => ∃ q, e = .returned (.bool true) ∧ w' = w.drewN q := by
  have e0 := fun W => eql_nil27 W a0 n c0
  have e1 := fun W => eql_nil23 W a1 n c1
  rw [← hnil] at e1
  obtain ⟨B, hB⟩ : ∃ B, a0.isNone = B := ⟨_, rfl⟩
  rw [hB] at e0 e1
  have hBB : (B != B) = false := by cases B <;> rfl
  have H0 : Hid (∀ i, i < n → a0 = some ⟨b0, o0, none⟩ ∧ ∀ k, k < 3 → w.cell? ⟨b0, o0 + i * 3 + k, none⟩ = some (.int .i64 (z i k))) := h0
  have H1 : Hid (∀ i, i < n → a1 = some ⟨b1, o1, none⟩ ∧ ∀ k, k < 3 → w.cell? ⟨b1, o1 + i * 3 + k, none⟩ = some (.int .i64 (z i k))) := h1
  clear h0 h1 hnil hB
  go_enter Ybaf.func12, Ybaf.ntmps12
  go_wp2_with (first | simp only [e0] | simp only [e1])
  go_loopw [20] (fun x wr => ∃ m : Nat, m ≤ n ∧ x = .int .i64 m ∧ ∃ q, wr = w.drewN q) (fun x _ => n - (intOf x).toNat)
  case atStart => exact ⟨0, Nat.zero_le _, rfl, 0, rfl⟩
  case round =>
    obtain ⟨m, hm, rfl, q, rfl⟩ := hrel
    by_cases hlt : m < n
    · obtain ⟨p0, x0⟩ := H0.out m hlt
      obtain ⟨p1, x1⟩ := H1.out m hlt
      cases p0
      cases p1
      have s0 := x0 0 (by omega)
      have s1 := x0 1 (by omega)
      have s2 := x0 2 (by omega)
      have t0 := x1 0 (by omega)
      have t1 := x1 1 (by omega)
      have t2 := x1 2 (by omega)
      simp only [Nat.add_zero] at s0 t0
      have n0 : (z m 0 != z m 0) = false := by simp
      have n1 : (z m 1 != z m 1) = false := by simp
      have n2 : (z m 2 != z m 2) = false := by simp
      clear x0 x1
      go_wp2_with fail
      go_quiet (fail)
      go_wp2_with fail
      go_roundw
      case rel => exact ⟨m + 1, by omega, by go_num, _, rfl⟩
      case measure => simp [intOf]; omega
    · obtain rfl : m = n := by omega
      go_wp2_with fail
      go_ret
      exact ⟨_, rfl, rfl⟩
end Go.Proofs.YbulkcwpuFmt
