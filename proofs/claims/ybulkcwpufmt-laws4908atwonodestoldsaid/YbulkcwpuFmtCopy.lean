/-
  The walks of 'zzs4908acopy' (function 6) and 'zzs4908aclaims' (function 7).
-/
import Derived.Test.YbulkcwpuFmtLit
import Derived.Laws.CopyRow
import Derived.Laws.CopyOwn
import Derived.ProofKit
namespace Go.Proofs.YbulkcwpuFmt
open Go.RowKit Go.Lib
set_option linter.unusedVariables false

theorem plain_add (b off j : Nat) : (⟨b, off, none⟩ : Addr).add j = ⟨b, off + j, none⟩ := by
  by_cases h : j = 0
  · subst h; simp [Addr.add]
  · simp [Addr.add, h]
theorem heap_new (w : World) (o : Obj) : (w.alloc o).heap[w.heap.size]? = some o := by show (w.heap.push o)[w.heap.size]? = _; exact Array.getElem?_push_size
theorem eql_nil22 (W : World) (a : Option Addr) (n c : Nat) : (binOp .eql 22 (.slice a n c) (.slice none 0 0)).run Ybaf.prog W = .ok (.bool a.isNone) W := by
  simp only [binOp]
  simp [Op.equal, Op.maxDepth, Lib.run_equalIn_slice_nil W 9999 22 3 a n c 0 0 Ybaf.underlying22]
theorem eql_nil23 (W : World) (a : Option Addr) (n c : Nat) : (binOp .eql 23 (.slice a n c) (.slice none 0 0)).run Ybaf.prog W = .ok (.bool a.isNone) W := by
  simp only [binOp]
  simp [Op.equal, Op.maxDepth, Lib.run_equalIn_slice_nil W 9999 23 36 a n c 0 0 Ybaf.underlying23]

theorem make_big (t e : TypeId) (z : Value) (size bytes n : Nat) (cs : Array Value) (ht : Ybaf.prog.underlying t = some (.slice e)) (hi : (Ybaf.prog.info? e).map (fun i => (i.zero, i.size, i.bytes)) = some (some z, size, bytes))
    (hb : bytes ≤ 96) (hn : n ≤ 1024) (hcs : z.cells = cs) (w : World) :
    (Instr.makeSlice t (.int .i64 n) (.int .i64 n)).run Ybaf.prog w = .ok (.slice (some ⟨w.heap.size, 0, none⟩) n n) (w.alloc (.cells (madeCells cs (n * size)) e)) := by
  obtain ⟨i0, hi, hz0, hz1, hz2⟩ := info_parts hi
  have hmul : (bytes : Int) * (n : Int) ≤ 96 * 1024 := by
    have h : bytes * n ≤ 96 * 1024 := Nat.mul_le_mul hb hn
    have := Int.ofNat_le.2 h
    simpa using this
  have r := run_make (P := Ybaf.prog) w t e i0 z ht hi hz0 .i64 .i64 n n (by omega) (by omega) (by rw [hz2]; omega) (by omega)
  rw [hz1, hcs] at r
  simp only [Int.toNat_natCast] at r
  exact r

/-- 'copy(out, xs)', out new. -/
theorem copy_run (z : Nat → Int) (a0 : Option Addr) (b off n cap : Nat) (w : World)
    (hc : ∀ i, i < n → a0 = some ⟨b, off, none⟩ ∧ b < w.heap.size ∧ w.cell? ⟨b, off + i, none⟩ = some (.int .i64 (z i))) :
    ∃ w1, (∀ ty, (Builtin.copy_ #[22, 22] ty #[.slice (some ⟨w.heap.size, 0, none⟩) n n, .slice a0 n cap]).run Ybaf.prog (w.alloc (.cells (madeCells #[.int .i64 0] (n * 1)) 3)) = .ok (.int .i64 n) w1) ∧
      w.heap.size < w1.heap.size ∧ (∀ i, i < n → w1.cell? ⟨w.heap.size, i, none⟩ = some (.int .i64 (z i))) ∧ Below w.heap.size w w1 := by
  have hs : (Ybaf.prog.info? 3).map (·.size) = some 1 := by kernel_rfl
  rw [Nat.mul_one]
  have bl0 := (Below.refl w.heap.size w).alloc (Nat.le_refl _) (.cells (madeCells #[.int .i64 0] n) 3)
  by_cases h0 : n = 0
  · subst h0
    exact ⟨_, fun ty => run_copy_none _ 22 22 ty 3 _ _ _ _ _ _ Ybaf.underlying22 hs rfl, by simp, fun i hi => absurd hi (Nat.not_lt_zero _), bl0⟩
  · obtain ⟨rfl, hb, _⟩ := hc 0 (by omega)
    have hg : (w.alloc (.cells (madeCells #[.int .i64 0] n) 3)).heap[w.heap.size]? = some (.cells (madeCells #[.int .i64 0] n) 3 (0, 0)) := heap_new w _
    have hlen : ((List.range n).map (fun i => Value.int .i64 (z i))).length = n := by simp
    have r := fun ty => run_copy_row (P := Ybaf.prog) (w.alloc (.cells (madeCells #[.int .i64 0] n) 3)) 22 22 ty 3 w.heap.size 0 n n ⟨b, off, none⟩ n cap _ 3 ((List.range n).map (fun i => Value.int .i64 (z i))) Ybaf.underlying22 hs hg (by rw [hlen]; simp)
      (by
        intro j v hj
        have hjn : j < n := by have := (List.getElem?_eq_some_iff.1 hj).1; simpa using this
        have hv : v = .int .i64 (z j) := by simpa [hjn] using hj.symm
        rw [hv, plain_add, World.cell?_alloc_past _ _ _ hb]
        exact (hc j hjn).2.2)
      (by rw [hlen, size_madeCells]; omega)
      (by intro v hv; simp at hv; obtain ⟨i, _, rfl⟩ := hv; rfl)
    rw [hlen] at r
    refine ⟨_, r, by simp [World.setRow], fun i hi => ?_, below_setRow bl0 (Nat.le_refl _) _⟩
    rw [cell_setRow_same _ _ _ _ _ _ _ hg]
    simp only [List.take_zero, List.nil_append, List.getElem?_toArray]
    rw [List.getElem?_append_left (by simpa using hi)]
    simp [hi]

set_option maxRecDepth 20000 in
set_option maxHeartbeats 800000 in
theorem copy_any (z : Nat → Int) (a0 : Option Addr) (b off n cap : Nat) (w : World) (hn : n ≤ 1024) (hnil : a0 = none → n = 0)
    (hc : ∀ i, i < n → a0 = some ⟨b, off, none⟩ ∧ b < w.heap.size ∧ w.cell? ⟨b, off + i, none⟩ = some (.int .i64 (z i))) :
    Calls Ybaf.prog 6 #[.slice a0 n cap] w fun e w' => ∃ a', e = .returned (.slice a' n n) ∧ a'.isNone = a0.isNone ∧ Below w.heap.size w w' ∧ ∀ x, a' = some x → ∃ g, x = ⟨g, 0, none⟩ ∧ w.heap.size ≤ g ∧ g < w'.heap.size ∧ ∀ i, i < n → w'.cell? ⟨g, i, none⟩ = some (.int .i64 (z i)) := by
  have he := fun W => eql_nil22 W a0 n cap
  cases a0 with
  | none =>
    have h0 := hnil rfl
    subst h0
    simp only [Option.isNone_none] at he
    clear hc hnil
    go_enter Ybaf.func6, Ybaf.ntmps6
    go_wp2_with (simp only [he])
    go_ret
    exact ⟨none, rfl, rfl, Below.refl _ _, fun x h => by cases h⟩
  | some x =>
    simp only [Option.isNone_some] at he
    have hmk := make_big 22 3 (.int .i64 0) 1 8 n #[.int .i64 0] Ybaf.underlying22 info3 (by omega) hn rfl w
    obtain ⟨w1, hcp, hz1, hcell, hbl⟩ := copy_run z (some x) b off n cap w hc
    simp only [Nat.mul_one] at hmk hcp
    clear hc hnil
    go_enter Ybaf.func6, Ybaf.ntmps6
    go_wp2_with (first | simp only [he] | simp only [hcp])
    go_ret
    exact ⟨some ⟨w.heap.size, 0, none⟩, rfl, rfl, hbl, fun y h => by cases h; exact ⟨w.heap.size, rfl, Nat.le_refl _, hz1, hcell⟩⟩

set_option maxRecDepth 20000 in
set_option maxHeartbeats 1600000 in
theorem claims_any (z : Nat → Nat → Int) (a0 : Option Addr) (b off n cap : Nat) (w : World) (hn : n ≤ 1024) (hnil : a0 = none → n = 0)
    (hc : ∀ i, i < n → a0 = some ⟨b, off, none⟩ ∧ b < w.heap.size ∧ ∀ k, k < 3 → w.cell? ⟨b, off + i * 3 + k, none⟩ = some (.int .i64 (z i k))) :
    Calls Ybaf.prog 7 #[.slice a0 n cap] w fun e w' => ∃ a', e = .returned (.slice a' n n) ∧ a'.isNone = a0.isNone ∧ Below w.heap.size w w' ∧ ∀ x, a' = some x → ∃ g, x = ⟨g, 0, none⟩ ∧ w.heap.size ≤ g ∧ g < w'.heap.size ∧ ∀ i, i < n → ∀ k, k < 3 → w'.cell? ⟨g, i * 3 + k, none⟩ = some (.int .i64 (z i k)) := by
  have he := fun W => eql_nil23 W a0 n cap
  cases a0 with
  | none =>
    have h0 := hnil rfl
    subst h0
    simp only [Option.isNone_none] at he
    clear hc hnil
    go_enter Ybaf.func7, Ybaf.ntmps7
    go_wp2_with (simp only [he])
    go_ret
    exact ⟨none, rfl, rfl, Below.refl _ _, fun x h => by cases h⟩
  | some x =>
    simp only [Option.isNone_some] at he
    have hmk := make_big 27 31 (.agg #[.int .i64 0, .int .i64 0, .int .i64 0]) 3 24 n #[.int .i64 0, .int .i64 0, .int .i64 0] Ybaf.underlying27 info31 (by omega) hn rfl w
    obtain ⟨w1, e1⟩ : ∃ w1, w.alloc (.cells (madeCells #[.int .i64 0, .int .i64 0, .int .i64 0] (n * 3)) 31) = w1 := ⟨_, rfl⟩
    rw [e1] at hmk
    have hr1 : Row w1 w.heap.size (n * 3) (fun j => (madeCells #[.int .i64 0, .int .i64 0, .int .i64 0] (n * 3)).getD j undef) := by
      have r := Row.new w (madeCells #[.int .i64 0, .int .i64 0, .int .i64 0] (n * 3)) 31
      rw [size_madeCells, e1] at r
      exact r
    have hb1 : Below w.heap.size w w1 := e1 ▸ (Below.refl _ w).alloc (Nat.le_refl _) _
    have hz1 : w.heap.size < w1.heap.size := by rw [← e1]; simp
    have HB : Hid (Below w.heap.size w w1) := hb1
    have HR : Hid (Row w1 w.heap.size (n * 3) (fun j => (madeCells #[.int .i64 0, .int .i64 0, .int .i64 0] (n * 3)).getD j undef)) := hr1
    clear hr1 hb1 e1 hnil
    go_enter Ybaf.func7, Ybaf.ntmps7
    go_wp2_with (simp only [he])
    go_loopw [12] (fun x wr => ∃ m : Nat, m ≤ n ∧ x = .int .i64 m ∧ Below w.heap.size w wr ∧ w.heap.size < wr.heap.size ∧ ∃ h, Row wr w.heap.size (n * 3) h ∧ ∀ i, i < m → ∀ k, k < 3 → h (i * 3 + k) = .int .i64 (z i k)) (fun x _ => n - (intOf x).toNat)
    case atStart => exact ⟨0, Nat.zero_le _, rfl, HB.out, hz1, _, HR.out, fun i hi => absurd hi (Nat.not_lt_zero _)⟩
    case round =>
      obtain ⟨m, hm, rfl, hbl, hsz, h, hrow, hh⟩ := hrel
      by_cases hlt : m < n
      · obtain ⟨hx, hb, hcell⟩ := hc m hlt
        cases hx
        have s0 := (hbl.cell (p := ⟨b, off + m * 3 + 0, none⟩) hb).trans (hcell 0 (by omega))
        have s1 := (hbl.cell (p := ⟨b, off + m * 3 + 1, none⟩) hb).trans (hcell 1 (by omega))
        have s2 := (hbl.cell (p := ⟨b, off + m * 3 + 2, none⟩) hb).trans (hcell 2 (by omega))
        simp only [Nat.add_zero] at s0
        have r0 := hrow.cell (m * 3) (by omega)
        have q0 := hrow.free (m * 3) (by omega)
        obtain ⟨x1, y1⟩ : ∃ x1, wr.drew.setCell ⟨w.heap.size, m * 3, none⟩ (.int .i64 (z m 0)) = x1 := ⟨_, rfl⟩
        have R1 : Row x1 w.heap.size (n * 3) _ := y1 ▸ Row.set (w := wr.drew) (Row.drewN (k := 1) hrow) (p := m * 3) (by omega) (.int .i64 (z m 0))
        have r1 := R1.cell (m * 3 + 1) (by omega)
        have q1 := R1.free (m * 3 + 1) (by omega)
        obtain ⟨x2, y2⟩ : ∃ x2, x1.setCell ⟨w.heap.size, m * 3 + 1, none⟩ (.int .i64 (z m 1)) = x2 := ⟨_, rfl⟩
        have R2 : Row x2 w.heap.size (n * 3) _ := y2 ▸ R1.set (p := m * 3 + 1) (by omega) (.int .i64 (z m 1))
        have r2 := R2.cell (m * 3 + 2) (by omega)
        have q2 := R2.free (m * 3 + 2) (by omega)
        obtain ⟨x3, y3⟩ : ∃ x3, x2.setCell ⟨w.heap.size, m * 3 + 2, none⟩ (.int .i64 (z m 2)) = x3 := ⟨_, rfl⟩
        have R3 : Row x3 w.heap.size (n * 3) _ := y3 ▸ R2.set (p := m * 3 + 2) (by omega) (.int .i64 (z m 2))
        have B3 : Below w.heap.size w x3 := by
          rw [← y3, ← y2, ← y1]
          exact ((hbl.drew.setCell (Nat.le_refl _) _).setCell (Nat.le_refl _) _).setCell (Nat.le_refl _) _
        have Z3 : w.heap.size < x3.heap.size := by rw [← y3, ← y2, ← y1]; simpa using hsz
        have HH : Hid (Below w.heap.size w x3 ∧ w.heap.size < x3.heap.size ∧ ∃ h, Row x3 w.heap.size (n * 3) h ∧ ∀ i, i < m + 1 → ∀ k, k < 3 → h (i * 3 + k) = .int .i64 (z i k)) := by
          refine ⟨B3, Z3, _, R3, fun i hi k hk => ?_⟩
          unfold upd
          by_cases e : i = m
          · subst e
            have : k = 0 ∨ k = 1 ∨ k = 2 := by omega
            rcases this with rfl | rfl | rfl
            · rw [if_neg (by omega), if_neg (by omega), if_pos (by omega)]
            · rw [if_neg (by omega), if_pos (by omega)]
            · rw [if_pos (by omega)]
          · rw [if_neg (by omega), if_neg (by omega), if_neg (by omega)]
            exact hh i (by omega) k hk
        clear R1 R2 R3 B3 Z3 hrow hh hbl hc hcell
        go_wp2_with fail
        go_region
        go_wp2_with fail
        go_roundw
        case rel => exact ⟨m + 1, by omega, by go_num, HH.out.1, HH.out.2.1, HH.out.2.2⟩
        case measure => simp [intOf]; omega
      · obtain rfl : m = n := by omega
        go_wp2_with fail
        go_ret
        exact ⟨some ⟨w.heap.size, 0, none⟩, rfl, rfl, hbl, fun y hy => by cases hy; exact ⟨w.heap.size, rfl, Nat.le_refl _, hsz, fun i hi k hk => by rw [hrow.cell _ (by omega), hh i hi k hk]⟩⟩
end Go.Proofs.YbulkcwpuFmt
