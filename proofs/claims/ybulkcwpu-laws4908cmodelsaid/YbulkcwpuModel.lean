/-
  The walk of 'LawS4908CModel' (function 4), for a slice of at most 1024 bytes.
-/
import Derived.Test.YbulkcwpuDown
import Derived.Deep.QuietTactic
import Derived.BigQuiet
namespace Go.Proofs.Ybulkcwpu
open Go.RowKit
set_option linter.unusedVariables false
theorem Yba.info35 : (Yba.prog.info? 35).map (fun i => (i.zero.isSome, i.size, i.bytes)) = some (true, 8, 64) := by kernel_rfl
theorem make_segs (n : Nat) (hn : n ≤ 1024) (w : World) : ∃ cs : Array Value, cs.size = n * 8 ∧
    (Instr.makeSlice 31 (.int .i64 n) (.int .i64 n)).run Yba.prog w = .ok (.slice (some ⟨w.heap.size, 0, none⟩) n n) (w.alloc (.cells cs 35)) := by
  have h := Yba.info35
  cases hi : Yba.prog.info? 35 with
  | none => rw [hi] at h; cases h
  | some i =>
    rw [hi] at h
    simp at h
    obtain ⟨h1, h2, h3⟩ := h
    obtain ⟨zv, hz⟩ := Option.isSome_iff_exists.1 h1
    have r := run_make (P := Yba.prog) w 31 35 i zv Yba.underlying31 hi hz .i64 .i64 n n (by omega) (by omega) (by rw [h3]; omega) (by omega)
    rw [h2] at r
    simp only [Int.toNat_natCast] at r
    exact ⟨_, size_madeCells _ _, r⟩

structure Segs (z : Nat → Int) (k : Nat) (f : Nat → Value) : Prop where
  lo : ∀ i, i < k → f (i * 8 + 6) = .int .i64 (link z i)
  hi : ∀ i, i < k → f (i * 8 + 7) = .int .i64 (-1)
  da : ∀ i, i < k → f (i * 8 + 4) = .int .i64 i


theorem segs_step {z : Nat → Int} {k n : Nat} {f : Nat → Value} (h : Segs z k f) : Segs z (k + 1) (upd (upd (upd f (k * 8 + 6) (.int .i64 (z k % (k + 1) - 1))) (k * 8 + 7) (.int .i64 (-1))) (k * 8 + 4) (.int .i64 k)) := by
  refine ⟨fun i hi => ?_, fun i hi => ?_, fun i hi => ?_⟩
  · by_cases e : i = k
    · subst e; rw [upd_ne _ _ _ _ (by omega), upd_ne _ _ _ _ (by omega), upd_same]; rfl
    · rw [upd_ne _ _ _ _ (by omega), upd_ne _ _ _ _ (by omega), upd_ne _ _ _ _ (by omega)]; exact h.lo i (by omega)
  · by_cases e : i = k
    · subst e; rw [upd_ne _ _ _ _ (by omega), upd_same]
    · rw [upd_ne _ _ _ _ (by omega), upd_ne _ _ _ _ (by omega), upd_ne _ _ _ _ (by omega)]; exact h.hi i (by omega)
  · by_cases e : i = k
    · subst e; rw [upd_same]
    · rw [upd_ne _ _ _ _ (by omega), upd_ne _ _ _ _ (by omega), upd_ne _ _ _ _ (by omega)]; exact h.da i (by omega)

theorem ret_low {lo : Nat → Int} {t : Int} (h : t < 0) : Ending.returned (.bool (lowG lo t == t)) = .returned (.bool true) := by
  have : lowG lo t = t := by
    show lowF lo (t.toNat + 1) t = t
    rw [lowF, if_neg (by omega)]
  rw [this]; simp
theorem below_drewN {B n : Nat} {w w' : World} (h : Below B w w') : Below B w (w'.drewN n) := ⟨h.os, h.tape, h.output, h.size, h.block⟩

set_option maxHeartbeats 1000000 in
theorem cmodel_walk (z : Nat → Int) (a0 : Option Addr) (b off n cap : Nat) (t T : Int) (w : World) (hn : n ≤ 1024)
    (hz : ∀ i, i < n → 0 ≤ z i ∧ z i ≤ 255)
    (ht1 : -9223372036854775808 ≤ t) (ht2 : t ≤ 9223372036854775807)
    (hT1 : -9223372036854775808 ≤ T) (hT2 : T < n)
    (hcase : (t < 0 ∧ T = t) ∨ (0 ≤ t ∧ ((n : Int) == 0) = true ∧ T = -1) ∨ (0 ≤ t ∧ 0 < (n : Int) ∧ 0 ≤ t % (n : Int) ∧ ((n : Int) == 0) = false ∧ T = t % (n : Int)))
    (hc : ∀ i, i < n → a0 = some ⟨b, off, none⟩ ∧ b < w.heap.size ∧ w.cell? ⟨b, off + i, none⟩ = some (.int .u8 (z i))) :
    Calls Yba.prog 4 #[.slice a0 n cap, .int .i64 t] w fun e w' => e = .returned (.bool true) ∧ Below w.heap.size w w' := by
  obtain ⟨cs, hcs, hmk⟩ := make_segs n hn w
  have r0 := Row.new w cs 35
  have bl0 := (Below.refl w.heap.size w).alloc (Nat.le_refl _) (.cells cs 35)
  rw [hcs] at r0
  have HR : Hid (Row (w.alloc (.cells cs 35)) w.heap.size (n * 8) (fun j => cs.getD j undef)) := r0
  have HB : Hid (Below w.heap.size w (w.alloc (.cells cs 35))) := bl0
  clear r0 bl0 hcs
  have hlk : ∀ i, i < n → -1 ≤ link z i ∧ link z i < i := fun i hi => link_bd z i (hz i hi).1
  have HE : Hid (∀ t : Int, t < n → lowG (link z) t = if 0 ≤ t ∧ 0 ≤ link z t.toNat then lowG (link z) (link z t.toNat) else t) := lowG_eq (link z) n (fun i hi => (hlk i hi).2)
  rcases hcase with ⟨h1, hTe⟩ | ⟨h1, h2, hTe⟩ | ⟨h1, h3, h4, h2, hTe⟩
  all_goals
    have HT : Hid (T = _) := hTe
    have hlo : -9223372036854775808 ≤ (_ : Int) := hTe ▸ hT1
    have hhi : (_ : Int) < (n : Int) := hTe ▸ hT2
    clear hTe
    go_enter Yba.func4, Yba.ntmps4
    go_wp2_with fail
    go_loopw [7] (fun x wr => ∃ k : Nat, k ≤ n ∧ x = .int .i64 k ∧ Below w.heap.size w wr ∧ wr.heap.size = w.heap.size + 1 ∧ ∃ f, Row wr w.heap.size (n * 8) f ∧ Segs z k f) (fun x _ => n - (intOf x).toNat)
    case atStart => exact ⟨0, Nat.zero_le _, rfl, HB.out, by simp, _, HR.out, ⟨by omega, by omega, by omega⟩⟩
    case round =>
      obtain ⟨k, hk, rfl, hbl, hsz, f, hrow, hseg⟩ := hrel
      by_cases hlt : k < n
      · obtain ⟨rfl, hb, hck⟩ := hc k hlt
        have hck' : wr.cell? ⟨b, off + k, none⟩ = some (.int .u8 (z k)) := (hbl.cell (p := ⟨b, off + k, none⟩) hb).trans hck
        have c6 := hrow.cell (k * 8 + 6) (by omega)
        have c7 := hrow.cell (k * 8 + 7) (by omega)
        have c4 := hrow.cell (k * 8 + 4) (by omega)
        have f6 := hrow.free (k * 8 + 6) (by omega)
        have f7 := hrow.free (k * 8 + 7) (by omega)
        have f4 := hrow.free (k * 8 + 4) (by omega)
        have hzk := hz k hlt
        have mb := mod_bd (z k) k hzk.1 hzk.2
        have hb' : b ≠ w.heap.size := by omega
        go_wp2_with fail
        go_roundw
        case rel => 
          exact ⟨k + 1, by omega, by go_num, ((hbl.setCell (by simp) _).setCell (by simp) _).setCell (by simp) _, by simpa using hsz, _, ((hrow.set (by omega) _).set (by omega) _).set (by omega) _, segs_step (n := n) hseg⟩
        case measure => simp [intOf]; omega
      · have hkn : k = n := by omega
        subst hkn
        go_wp2_with fail
        have hbW := hbl.alloc (by omega) (Obj.cells #[Value.slice none 0 0, Value.slice none 0 0, Value.slice none 0 0, Value.slice none 0 0, Value.slice none 0 0, Value.slice (some { block := w.heap.size, off := 0 }) k k, Value.slice none 0 0] 44)
        have hrW := hrow.below ((Below.refl wr.heap.size wr).alloc (Nat.le_refl _) (Obj.cells #[Value.slice none 0 0, Value.slice none 0 0, Value.slice none 0 0, Value.slice none 0 0, Value.slice none 0 0, Value.slice (some { block := w.heap.size, off := 0 }) k k, Value.slice none 0 0] 44)) (by omega)
        have hcW := World.cell?_alloc_at (w := wr) #[Value.slice none 0 0, Value.slice none 0 0, Value.slice none 0 0, Value.slice none 0 0, Value.slice none 0 0, Value.slice (some { block := w.heap.size, off := 0 }) k k, Value.slice none 0 0] 44 (w.heap.size + 1) 5 hsz.symm
        refine (lowest_any (link z) (lowG (link z)) _ _ _ _ _ hn hhi hlo hcW ?_ hlk HE).mono ?_
        · intro i hi
          rw [hrW.cell _ (by omega), hseg.lo i hi]
        rintro e w' ⟨rfl, rfl⟩
        go_wp2_with fail
        go_loopw [10] (fun x w2 => ∃ j : Nat, j ≤ k ∧ x = .int .i64 j ∧ Below w.heap.size w w2 ∧ Row w2 w.heap.size (k * 8) f ∧ w2.cell? ⟨w.heap.size + 1, 5, none⟩ = some (.slice (some ⟨w.heap.size, 0, none⟩) k k)) (fun x _ => k - (intOf x).toNat)
        case atStart => exact ⟨0, Nat.zero_le _, rfl, hbW, hrW, hcW⟩
        case round =>
          clear hbW hrW hcW
          obtain ⟨j, hj, rfl, hb2, hr2, hc2⟩ := hrel
          by_cases hlt2 : j < k
          · obtain ⟨rfl, hb, hck⟩ := hc j hlt2
            have hck' : wr.cell? ⟨b, off + j, none⟩ = some (.int .u8 (z j)) := (hb2.cell (p := ⟨b, off + j, none⟩) hb).trans hck
            have c6 : wr.cell? ⟨w.heap.size, j * 8 + 6, none⟩ = some (.int .i64 (z j % (j + 1) - 1)) := by rw [hr2.cell (j * 8 + 6) (by omega), hseg.lo j hlt2]; rfl
            have c7 : wr.cell? ⟨w.heap.size, j * 8 + 7, none⟩ = some (.int .i64 (-1)) := by rw [hr2.cell (j * 8 + 7) (by omega), hseg.hi j hlt2]
            have c4 : wr.cell? ⟨w.heap.size, j * 8 + 4, none⟩ = some (.int .i64 j) := by rw [hr2.cell (j * 8 + 4) (by omega), hseg.da j hlt2]
            have hzk := hz j hlt2
            have mb := mod_bd (z j) j hzk.1 hzk.2
            have i1 : (0 : Int) ≤ (j : Int) := by omega
            have i2 : (j : Int) < (k : Int) := by omega
            go_wp2_with fail
            go_quiet (fail)
            go_wp2_with fail
            go_roundw
            case rel => exact ⟨j + 1, by omega, by go_num, below_drewN hb2, hr2.drewN, hc2⟩
            case measure => simp [intOf]; omega
          · go_wp2_with fail
            first
              | (go_ret
                 exact ⟨ret_low (by omega), hb2⟩)
              | (obtain ⟨m, hm⟩ : ∃ m : Nat, t % (k : Int) = m := ⟨(t % (k : Int)).toNat, by omega⟩
                 have hm' : m < k := by omega
                 obtain rfl : a0 = some ⟨b, off, none⟩ := (hc m hm').1
                 have HM : Hid (t % (k : Int) = m) := hm
                 clear hm
                 rw [HM.out]
                 refine (down_any z b off k cap hn hz k m _ hm' hm' (fun i hi => (hb2.cell (p := ⟨b, off + i, none⟩) (hc i hi).2.1).trans (hc i hi).2.2)).mono ?_
                 rintro e w' ⟨rfl, rfl⟩
                 go_wp2_with fail
                 go_ret
                 exact ⟨by simp, hb2⟩)
end Go.Proofs.Ybulkcwpu
