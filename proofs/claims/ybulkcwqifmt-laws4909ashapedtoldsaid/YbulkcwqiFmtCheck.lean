/-
  The walk of 'zzs4909acheck' (function 6), for a slice of at most 1024 numbers.
-/
import Derived.Test.YbulkcwqiFmtLarge
namespace Go.Proofs.YbulkcwqiFmt
open Go.RowKit
set_option linter.unusedVariables false

theorem make_offs (n : Nat) (hn : n ≤ 1024) (w : World) :
    (Instr.makeSlice 22 (.int .i64 n) (.int .i64 n)).run Ybaf.prog w = .ok (.slice (some ⟨w.heap.size, 0, none⟩) n n) (w.alloc (.cells (madeCells #[.int .u64 0] n) 27)) := by
  obtain ⟨i0, hi, hz0, hz1, hz2⟩ := info_parts Ybaf.info27
  have r := run_make (P := Ybaf.prog) w 22 27 i0 _ Ybaf.underlying22 hi hz0 .i64 .i64 n n (by omega) (by omega) (by rw [hz2]; omega) (by omega)
  rw [hz1] at r
  simp only [Int.toNat_natCast, Nat.mul_one] at r
  exact r

theorem plain_add (b off j : Nat) : (⟨b, off, none⟩ : Addr).add j = ⟨b, off + j, none⟩ := by
  by_cases h : j = 0
  · subst h; simp [Addr.add]
  · simp [Addr.add, h]

/-- 'in := make([]uint64, len(offs)); copy(in, offs)': the two operations' runs, and what they leave. -/
theorem copy_offs (z : Nat → Int) (a0 : Option Addr) (b off n cap : Nat) (w : World)
    (hc : ∀ i, i < n → a0 = some ⟨b, off, none⟩ ∧ b < w.heap.size ∧ w.cell? ⟨b, off + i, none⟩ = some (.int .u64 (z i))) :
    ∃ w1, (Builtin.copy_ #[22, 22] 3 #[.slice (some ⟨w.heap.size, 0, none⟩) n n, .slice a0 n cap]).run Ybaf.prog (w.alloc (.cells (madeCells #[.int .u64 0] n) 27)) = .ok (.int .i64 n) w1 ∧
      w1.heap.size = w.heap.size + 1 ∧ (∀ i, i < n → w1.cell? ⟨w.heap.size, i, none⟩ = some (.int .u64 (z i))) ∧ Below w.heap.size w w1 := by
  have hs : (Ybaf.prog.info? 27).map (·.size) = some 1 := by kernel_rfl
  have bl0 := (Below.refl w.heap.size w).alloc (Nat.le_refl _) (.cells (madeCells #[.int .u64 0] n) 27)
  by_cases h0 : n = 0
  · subst h0
    refine ⟨_, run_copy_none _ 22 22 3 27 _ _ _ _ _ _ Ybaf.underlying22 hs rfl, by simp, fun i hi => absurd hi (Nat.not_lt_zero _), bl0⟩
  · obtain ⟨rfl, hb, _⟩ := hc 0 (by omega)
    have hg : (w.alloc (.cells (madeCells #[.int .u64 0] n) 27)).heap[w.heap.size]? = some (.cells (madeCells #[.int .u64 0] n) 27 (0, 0)) := heap_alloc_new w _
    have hlen : ((List.range n).map (fun i => Value.int .u64 (z i))).length = n := by simp
    have r := run_copy_row (P := Ybaf.prog) (w.alloc (.cells (madeCells #[.int .u64 0] n) 27)) 22 22 3 27 w.heap.size 0 n n ⟨b, off, none⟩ n cap _ 27 ((List.range n).map (fun i => Value.int .u64 (z i))) Ybaf.underlying22 hs hg (by rw [hlen]; simp)
      (by
        intro j v hj
        have hjn : j < n := by have := (List.getElem?_eq_some_iff.1 hj).1; simpa using this
        have hv : v = .int .u64 (z j) := by simpa [hjn] using hj.symm
        rw [hv, plain_add, World.cell?_alloc_past _ _ _ hb]
        exact (hc j hjn).2.2)
      (by rw [hlen, size_madeCells]; omega)
      (by intro v hv; simp at hv; obtain ⟨i, _, rfl⟩ := hv; rfl)
    rw [hlen] at r
    refine ⟨_, r, by simp [World.setRow], fun i hi => ?_, below_setRow bl0 (Nat.le_refl _) _⟩
    rw [cell_setRow_same _ _ _ _ _ _ _ hg]
    simp only [List.take_zero, List.nil_append, List.getElem?_toArray]
    rw [List.getElem?_append_left (by simpa using hi)]
    simp [hi]

theorem eql_nil (W : World) (a : Option Addr) (n c : Nat) : (binOp .eql 22 (.slice a n c) (.slice none 0 0)).run Ybaf.prog W = .ok (.bool a.isNone) W := by
  simp only [binOp]
  simp [Op.equal, Op.maxDepth, Lib.run_equalIn_slice_nil W 9999 22 27 a n c 0 0 Ybaf.underlying22]

theorem below_draws {B n : Nat} {w w' : World} (h : Below B w w') : Below B w (w'.drewN n) := ⟨h.os, h.tape, h.output, h.size, h.block⟩

/-- What a slice that the call made of some numbers looks like. -/
theorem own_form {w : World} {base : Nat} {v : Value} {xs : List Int} {len : Nat} (hl : xs.length = len) (hpos : 0 < len) (h : w.ownsRow base 27 1 v xs.length (xs.map (Value.int .u64))) :
    ∃ g cp, v = .slice (some ⟨g, 0, none⟩) len cp ∧ base ≤ g ∧ g < w.heap.size ∧ ∀ i, i < len → w.cell? ⟨g, 0 + i, none⟩ = some (.int .u64 (xs.getD i 0)) := by
  subst hl
  have h' := h
  rcases h.2 with ⟨_, h2⟩ | ⟨g, cap, cur, rfl, hg, hh, _⟩
  · omega
  · refine ⟨g, cap, rfl, hg, (Array.getElem?_eq_some_iff.1 hh).1, fun i hi => ?_⟩
    rw [Nat.zero_add, h'.cellAt i (by omega)]
    simp [hi]

set_option maxRecDepth 20000 in
set_option maxHeartbeats 2000000 in
theorem check_any (z : Nat → Int) (a0 : Option Addr) (b off n cap : Nat) (w : World) (hn : n ≤ 1024)
    (hc : ∀ i, i < n → a0 = some ⟨b, off, none⟩ ∧ b < w.heap.size ∧ w.cell? ⟨b, off + i, none⟩ = some (.int .u64 (z i))) :
    Calls Ybaf.prog 6 #[.slice a0 n cap] w fun e w' => e = .returned (.bool true) ∧ Below w.heap.size w w' := by
  have hmk := make_offs n hn w
  obtain ⟨w1, hcp, hsz, hin, hb1⟩ := copy_offs z a0 b off n cap w hc
  have hd : decide ((1024 : Int) < (n : Int)) = false := decide_eq_false (by omega)
  go_enter Ybaf.func6, Ybaf.ntmps6
  go_wp2_with fail
  have hbW := hb1.alloc (by omega) (Obj.cells #[Value.pointer none, Value.slice none 0 0, Value.slice none 0 0, Value.slice none 0 0, Value.slice (some { block := w.heap.size, off := 0 }) n n, Value.slice none 0 0] 56)
  have hcW : ∀ i, i < n → (w1.alloc (Obj.cells #[Value.pointer none, Value.slice none 0 0, Value.slice none 0 0, Value.slice none 0 0, Value.slice (some { block := w.heap.size, off := 0 }) n n, Value.slice none 0 0] 56)).cell? ⟨w.heap.size, 0 + i, none⟩ = some (.int .u64 (z i)) := by
    intro i hi
    rw [World.cell?_alloc_past _ _ _ (by omega), Nat.zero_add]
    exact hin i hi
  have hmW := World.cell?_alloc_at (w := w1) #[Value.pointer none, Value.slice none 0 0, Value.slice none 0 0, Value.slice none 0 0, Value.slice (some { block := w.heap.size, off := 0 }) n n, Value.slice none 0 0] 56 (w.heap.size + 1) 4 hsz.symm
  have hsW : (w1.alloc (Obj.cells #[Value.pointer none, Value.slice none 0 0, Value.slice none 0 0, Value.slice none 0 0, Value.slice (some { block := w.heap.size, off := 0 }) n n, Value.slice none 0 0] 56)).heap.size = w.heap.size + 2 := by simp [hsz]
  clear hmk hcp hin hb1
  by_cases ha : anyBig z n = true
  · refine (large_some z (w.heap.size + 1) w.heap.size n _ hn (by omega) (by omega) hmW hcW ha).mono ?_
    rintro e w3 ⟨v, rfl, hown, hbl⟩
    obtain ⟨len, hlen⟩ : ∃ len, (bigs z n).length = len := ⟨_, rfl⟩
    have hpos : 0 < len := by rw [← hlen]; exact bigs_pos z n ha
    have hl1024 : len ≤ 1024 := by have := bigs_le z n; omega
    obtain ⟨g, cp, rfl, hg1, hg2, hgot⟩ := own_form hlen hpos hown
    have hb3 : Below w.heap.size w w3 := hbW.trans (hbl.mono (by omega))
    have hin3 : ∀ i, i < n → w3.cell? ⟨w.heap.size, i, none⟩ = some (.int .u64 (z i)) := by
      intro i hi; rw [hbl.cell (p := ⟨w.heap.size, i, none⟩) (by show w.heap.size < _; omega)]; simpa using hcW i hi
    have HA : Hid (anyBig z n = true) := ha
    have HL : Hid ((bigs z n).length = len) := hlen
    have hs3 : w.heap.size + 2 ≤ w3.heap.size := by have := hbl.size; omega
    obtain ⟨i0, hi, hz0, hz1, hz2⟩ := info_parts Ybaf.info27
    clear hbW hcW hmW hsW ha hlen hown hbl
    go_wp2_with fail
    go_loopw [7] (fun x wr => ∃ k : Nat, k ≤ n ∧ x = .int .i64 k ∧ ∃ q, wr = w3.drewN q) (fun x _ => n - (intOf x).toNat)
    case atStart => exact ⟨0, Nat.zero_le _, rfl, 0, rfl⟩
    case round =>
      obtain ⟨k, hk, rfl, q, rfl⟩ := hrel
      by_cases hlt : k < n
      · obtain ⟨rfl, hb, hck⟩ := hc k hlt
        have c1 := hin3 k hlt
        have c2 : w3.cell? ⟨b, off + k, none⟩ = some (.int .u64 (z k)) := (hb3.cell (p := ⟨b, off + k, none⟩) hb).trans hck
        have i1 : (0 : Int) ≤ (k : Int) := by omega
        have i2 : (k : Int) < (n : Int) := by omega
        go_wp2_with fail
        go_quiet (fail)
        go_wp2_with fail
        go_roundw
        case rel => exact ⟨k + 1, by omega, by go_num, _, rfl⟩
        case measure => simp [intOf]; omega
      · go_wp2_with fail
        go_loop [8, 51] (fun y x => ∃ j : Nat, j ≤ n ∧ x = .int .i64 j ∧ y = .bool (anyBig z j)) (fun _ x => n - (intOf x).toNat)
        case atStart => exact ⟨0, Nat.zero_le _, rfl, rfl⟩
        case round =>
          obtain ⟨j, hj, rfl, rfl⟩ := hrel
          by_cases hjt : j < n
          · obtain ⟨rfl, hb, hck⟩ := hc j hjt
            have c2 : w3.cell? ⟨b, off + j, none⟩ = some (.int .u64 (z j)) := (hb3.cell (p := ⟨b, off + j, none⟩) hb).trans hck
            by_cases hz : 4294967295 < z j
            · go_wp2_with fail
              go_round
              case rel => exact ⟨j + 1, by omega, by go_num, by rw [anyBig]; simp [hz]⟩
              case measure => simp [intOf]; omega
            · have hz' : z j ≤ 4294967295 := by omega
              go_wp2_with fail
              go_round
              case rel => exact ⟨j + 1, by omega, by go_num, by rw [anyBig, decide_eq_false hz, Bool.or_false]⟩
              case measure => simp [intOf]; omega
          · have hjn : j = n := by omega
            subst hjn
            rw [HA.out]
            have he := fun W => eql_nil W (some ⟨g, 0, none⟩) len cp
            go_wp2_with fail
            go_loopw [11, 64] (fun v i wr => ∃ k : Nat, k ≤ j ∧ i = .int .i64 k ∧ wr.ownsRow w3.heap.size 27 1 v (bigs z k).length ((bigs z k).map (Value.int .u64)) ∧ Below w3.heap.size w3 wr) (fun _ i _ => j - (intOf i).toNat)
            case atStart => exact ⟨0, Nat.zero_le _, rfl, World.ownsRow_nil _ _ _ _, below_draws (Below.refl _ _)⟩
            case round =>
              obtain ⟨m, hm, rfl, hown, hbl⟩ := hrel
              have hle := bigs_le z m
              by_cases hmt : m < j
              · obtain ⟨rfl, hb, hck⟩ := hc m hmt
                have hbz := hb3.size
                have c2 : wr.cell? ⟨b, off + m, none⟩ = some (.int .u64 (z m)) := (hbl.cell (p := ⟨b, off + m, none⟩) (by show b < _; omega)).trans ((hb3.cell (p := ⟨b, off + m, none⟩) hb).trans hck)
                by_cases hz : 2147483648 ≤ z m
                · go_wp2_with (at_builtin; refine wpList_append_own _ rfl _ _ 22 rfl w3.heap.size 27 i0 (.int .u64 0) 1 8 Ybaf.underlying22 hi hz0 hz1 hz2 rfl (by decide) _ _ _ rfl (hown.alloc _) ⟨wr.heap.size, 0, none⟩ 1 1 [.int .u64 (z m)] rfl rfl ?d1 ?d2 ?d3 ?d4 ?d5 ?_)
                  case d2 => first | rfl | (intro u hu; simp at hu; subst hu; rfl)
                  case d3 => unfold maxLen; omega
                  case d4 => omega
                  case d5 => have := hbl.size; simp; omega
                  · intro v' w4 hown' hgrow hlast
                    have R := rel_keep hz (by have := hbl.size; omega) hbl (own_ge hown) hown' hgrow
                    clear hown' hgrow hown hlast
                    go_wp2_with fail
                    go_roundw
                    case rel => exact ⟨m + 1, by omega, by go_num, R.1, R.2⟩
                    case measure => simp [intOf]; omega
                · have hz' : z m < 2147483648 := by omega
                  go_wp2_with fail
                  go_roundw
                  case rel => exact ⟨m + 1, by omega, by go_num, by rw [bigs, if_neg hz]; exact hown, hbl⟩
                  case measure => simp [intOf]; omega
              · have hmn : m = j := by omega
                subst hmn
                obtain ⟨g2, cp2, hv, hg3, hg4, hwant⟩ := own_form HL.out hpos hown
                have hgot' : ∀ i, i < len → wr.cell? ⟨g, 0 + i, none⟩ = some (.int .u64 ((bigs z m).getD i 0)) := fun i hi => (hbl.cell (p := ⟨g, 0 + i, none⟩) hg2).trans (hgot i hi)
                have hbw : Below w.heap.size w wr := hb3.trans (hbl.mono hb3.size)
                subst hv
                clear hown hbl hgot hle hc hin3
                obtain ⟨G, hG⟩ : ∃ G : Nat → Int, ∀ i, (bigs z m).getD i 0 = G i := ⟨_, fun _ => rfl⟩
                simp only [hG] at hgot' hwant
                clear hG
                have l1 : (0 : Int) < (len : Int) := by omega
                go_wp2_with fail
                go_loopw [14] (fun x w5 => ∃ y : Nat, y ≤ len ∧ x = .int .i64 y ∧ ∃ q2, w5 = wr.drewN q2) (fun x _ => len - (intOf x).toNat)
                case atStart => exact ⟨0, Nat.zero_le _, rfl, 0, rfl⟩
                case round =>
                  obtain ⟨y, hy, rfl, q2, rfl⟩ := hrel
                  by_cases hyt : y < len
                  · have e1 : wr.cell? ⟨g, y, none⟩ = some (.int .u64 (G y)) := by simpa using hgot' y hyt
                    have e2 : wr.cell? ⟨g2, y, none⟩ = some (.int .u64 (G y)) := by simpa using hwant y hyt
                    have i1 : (0 : Int) ≤ (y : Int) := by omega
                    have i2 : (y : Int) < (len : Int) := by omega
                    go_wp2_with fail
                    go_quiet (fail)
                    go_wp2_with fail
                    go_roundw
                    case rel => exact ⟨y + 1, by omega, by go_num, _, rfl⟩
                    case measure => simp [intOf]; omega
                  · go_wp2_with fail
                    go_ret
                    exact ⟨rfl, below_draws hbw⟩
  · have ha' : anyBig z n = false := by simpa using ha
    refine (large_none z (w.heap.size + 1) w.heap.size n _ hn hmW hcW ha').mono ?_
    rintro e w3 ⟨rfl, hw3⟩
    have hb3 : Below w.heap.size w w3 := by rw [hw3]; exact hbW
    have hin3 : ∀ i, i < n → w3.cell? ⟨w.heap.size, i, none⟩ = some (.int .u64 (z i)) := by
      intro i hi; rw [hw3]; simpa using hcW i hi
    have HA : Hid (anyBig z n = false) := ha'
    clear hbW hcW hmW hsW hw3 ha ha'
    go_wp2_with fail
    go_loopw [7] (fun x wr => ∃ k : Nat, k ≤ n ∧ x = .int .i64 k ∧ ∃ q, wr = w3.drewN q) (fun x _ => n - (intOf x).toNat)
    case atStart => exact ⟨0, Nat.zero_le _, rfl, 0, rfl⟩
    case round =>
      obtain ⟨k, hk, rfl, q, rfl⟩ := hrel
      by_cases hlt : k < n
      · obtain ⟨rfl, hb, hck⟩ := hc k hlt
        have c1 := hin3 k hlt
        have c2 : w3.cell? ⟨b, off + k, none⟩ = some (.int .u64 (z k)) := (hb3.cell (p := ⟨b, off + k, none⟩) hb).trans hck
        have i1 : (0 : Int) ≤ (k : Int) := by omega
        have i2 : (k : Int) < (n : Int) := by omega
        go_wp2_with fail
        go_quiet (fail)
        go_wp2_with fail
        go_roundw
        case rel => exact ⟨k + 1, by omega, by go_num, _, rfl⟩
        case measure => simp [intOf]; omega
      · go_wp2_with fail
        go_loop [8, 51] (fun y x => ∃ j : Nat, j ≤ n ∧ x = .int .i64 j ∧ y = .bool (anyBig z j)) (fun _ x => n - (intOf x).toNat)
        case atStart => exact ⟨0, Nat.zero_le _, rfl, rfl⟩
        case round =>
          obtain ⟨j, hj, rfl, rfl⟩ := hrel
          by_cases hjt : j < n
          · obtain ⟨rfl, hb, hck⟩ := hc j hjt
            have c2 : w3.cell? ⟨b, off + j, none⟩ = some (.int .u64 (z j)) := (hb3.cell (p := ⟨b, off + j, none⟩) hb).trans hck
            by_cases hz : 4294967295 < z j
            · go_wp2_with fail
              go_round
              case rel => exact ⟨j + 1, by omega, by go_num, by rw [anyBig]; simp [hz]⟩
              case measure => simp [intOf]; omega
            · have hz' : z j ≤ 4294967295 := by omega
              go_wp2_with fail
              go_round
              case rel => exact ⟨j + 1, by omega, by go_num, by rw [anyBig, decide_eq_false hz, Bool.or_false]⟩
              case measure => simp [intOf]; omega
          · have hjn : j = n := by omega
            subst hjn
            rw [HA.out]
            have he := fun W => eql_nil W none 0 0
            go_wp2_with fail
            go_ret
            exact ⟨rfl, below_draws hb3⟩
end Go.Proofs.YbulkcwqiFmt
