/-
  The walk of 'LawS4908CMerge' (function 5), for a slice of at most 512 numbers.
-/
import Derived.Test.YbulkcwpuMerge
namespace Go.Proofs.Ybulkcwpu
open Go.RowKit
set_option linter.unusedVariables false
theorem info35 : (Yba.prog.info? 35).map (fun i => (i.zero.isSome, i.size, i.bytes)) = some (true, 8, 64) := by kernel_rfl
theorem make_row (n : Nat) (hn : n ≤ 1024) (w : World) : ∃ cs : Array Value, cs.size = n * 8 ∧
    (Instr.makeSlice 31 (.int .i64 n) (.int .i64 n)).run Yba.prog w = .ok (.slice (some ⟨w.heap.size, 0, none⟩) n n) (w.alloc (.cells cs 35)) := by
  have h := info35
  cases hi : Yba.prog.info? 35 with
  | none => rw [hi] at h; cases h
  | some i =>
    rw [hi] at h
    simp at h
    obtain ⟨h1, h2, h3⟩ := h
    obtain ⟨zv, hz⟩ := Option.isSome_iff_exists.1 h1
    have r := run_make (P := Yba.prog) w 31 35 i zv Yba.underlying31 hi hz .i64 .i64 n n (by omega) (by omega) (by rw [h3]; omega) (by omega)
    rw [h2] at r
    simp only [Int.toNat_natCast] at r
    exact ⟨_, size_madeCells _ _, r⟩

structure Lone (pr : Nat → Int) (k : Nat) (f : Nat → Value) : Prop where
  lo : ∀ i, i < k → f (i * 8 + 6) = .int .i64 (-1)
  hi : ∀ i, i < k → f (i * 8 + 7) = .int .i64 (-1)
  pc : ∀ i, i < k → f (i * 8 + 5) = .int .u64 (pr i)

theorem lone_step {pr : Nat → Int} {k : Nat} {f : Nat → Value} (h : Lone pr k f) : Lone pr (k + 1) (upd (upd (upd f (k * 8 + 6) (.int .i64 (-1))) (k * 8 + 7) (.int .i64 (-1))) (k * 8 + 5) (.int .u64 (pr k))) := by
  refine ⟨fun i hi => ?_, fun i hi => ?_, fun i hi => ?_⟩
  · by_cases e : i = k
    · subst e; rw [upd_ne _ _ _ _ (by omega), upd_ne _ _ _ _ (by omega), upd_same]
    · rw [upd_ne _ _ _ _ (by omega), upd_ne _ _ _ _ (by omega), upd_ne _ _ _ _ (by omega)]; exact h.lo i (by omega)
  · by_cases e : i = k
    · subst e; rw [upd_ne _ _ _ _ (by omega), upd_same]
    · rw [upd_ne _ _ _ _ (by omega), upd_ne _ _ _ _ (by omega), upd_ne _ _ _ _ (by omega)]; exact h.hi i (by omega)
  · by_cases e : i = k
    · subst e; rw [upd_same]
    · rw [upd_ne _ _ _ _ (by omega), upd_ne _ _ _ _ (by omega), upd_ne _ _ _ _ (by omega)]; exact h.pc i (by omega)

theorem tr_lone {w : World} {S n : Nat} {pr : Nat → Int} {f : Nat → Value} (hr : Row w S (n * 8) f) (h : Lone pr n f) : Tr w S n pr (fun _ => -1) (fun _ => -1) :=
  ⟨fun i hi => by rw [hr.cell _ (by omega), h.pc i hi], fun i hi => by rw [hr.cell _ (by omega), h.lo i hi], fun i hi => by rw [hr.cell _ (by omega), h.hi i hi], fun i hi => hr.free _ (by omega), fun i hi => hr.free _ (by omega)⟩

theorem Tr.below {w w' : World} {S n B : Nat} {pr lo hi : Nat → Int} (h : Tr w S n pr lo hi) (hb : Below B w w') (hS : S < B) : Tr w' S n pr lo hi :=
  ⟨fun i hi => (hb.cell (p := ⟨S, i * 8 + 5, none⟩) hS).trans (h.prc i hi), fun i hi => (hb.cell (p := ⟨S, i * 8 + 6, none⟩) hS).trans (h.loc i hi), fun i hi => (hb.cell (p := ⟨S, i * 8 + 7, none⟩) hS).trans (h.hic i hi),
   fun i hi => (hb.frozen (p := ⟨S, i * 8 + 6, none⟩) hS).trans (h.lof i hi), fun i hi => (hb.frozen (p := ⟨S, i * 8 + 7, none⟩) hS).trans (h.hif i hi)⟩

theorem inv_lone (n : Nat) : TInv n 0 (fun _ => -1) (fun _ => -1) := ⟨fun j _ => by omega, fun j _ => by omega, fun _ _ _ => ⟨rfl, rfl⟩⟩

set_option maxHeartbeats 1000000 in
theorem cmerge_walk (pr : Nat → Int) (a0 : Option Addr) (b off n cap : Nat) (w : World) (hn : n ≤ 512)
    (hc : ∀ i, i < n → a0 = some ⟨b, off, none⟩ ∧ b < w.heap.size ∧ w.cell? ⟨b, off + i, none⟩ = some (.int .u64 (pr i))) :
    Calls Yba.prog 5 #[.slice a0 n cap] w fun e w' => e = .returned (.bool true) ∧ Below w.heap.size w w' := by
  obtain ⟨cs, hcs, hmk⟩ := make_row n (by omega) w
  have r0 := Row.new w cs 35
  have bl0 := (Below.refl w.heap.size w).alloc (Nat.le_refl _) (.cells cs 35)
  rw [hcs] at r0
  have HR : Hid (Row (w.alloc (.cells cs 35)) w.heap.size (n * 8) (fun j => cs.getD j undef)) := r0
  have HB : Hid (Below w.heap.size w (w.alloc (.cells cs 35))) := bl0
  clear r0 bl0 hcs
  go_enter Yba.func5, Yba.ntmps5
  go_wp2_with fail
  go_loopw [5] (fun x wr => ∃ k : Nat, k ≤ n ∧ x = .int .i64 k ∧ Below w.heap.size w wr ∧ wr.heap.size = w.heap.size + 1 ∧ ∃ f, Row wr w.heap.size (n * 8) f ∧ Lone pr k f) (fun x _ => n - (intOf x).toNat)
  case atStart => exact ⟨0, Nat.zero_le _, rfl, HB.out, by simp, _, HR.out, ⟨by omega, by omega, by omega⟩⟩
  case round =>
    obtain ⟨k, hk, rfl, hbl, hsz, f, hrow, hseg⟩ := hrel
    by_cases hlt : k < n
    · obtain ⟨rfl, hb, hck⟩ := hc k hlt
      have hck' : wr.cell? ⟨b, off + k, none⟩ = some (.int .u64 (pr k)) := (hbl.cell (p := ⟨b, off + k, none⟩) hb).trans hck
      have c6 := hrow.cell (k * 8 + 6) (by omega)
      have c7 := hrow.cell (k * 8 + 7) (by omega)
      have c5 := hrow.cell (k * 8 + 5) (by omega)
      have f6 := hrow.free (k * 8 + 6) (by omega)
      have f7 := hrow.free (k * 8 + 7) (by omega)
      have f5 := hrow.free (k * 8 + 5) (by omega)
      have hb' : b ≠ w.heap.size := by omega
      go_wp2_with fail
      go_roundw
      case rel =>
        exact ⟨k + 1, by omega, by go_num, ((hbl.setCell (by simp) _).setCell (by simp) _).setCell (by simp) _, by simpa using hsz, _, ((hrow.set (by omega) _).set (by omega) _).set (by omega) _, lone_step hseg⟩
      case measure => simp [intOf]; omega
    · have hkn : k = n := by omega
      subst hkn
      go_wp2_with fail
      have hbW := hbl.alloc (by omega) (Obj.cells #[Value.slice none 0 0, Value.slice none 0 0, Value.slice none 0 0, Value.slice none 0 0, Value.slice none 0 0, Value.slice (some { block := w.heap.size, off := 0 }) k k, Value.slice none 0 0] 44)
      have hrW := (tr_lone hrow hseg).below ((Below.refl wr.heap.size wr).alloc (Nat.le_refl _) (Obj.cells #[Value.slice none 0 0, Value.slice none 0 0, Value.slice none 0 0, Value.slice none 0 0, Value.slice none 0 0, Value.slice (some { block := w.heap.size, off := 0 }) k k, Value.slice none 0 0] 44)) (by omega)
      have hcW := World.cell?_alloc_at (w := wr) #[Value.slice none 0 0, Value.slice none 0 0, Value.slice none 0 0, Value.slice none 0 0, Value.slice none 0 0, Value.slice (some { block := w.heap.size, off := 0 }) k k, Value.slice none 0 0] 44 (w.heap.size + 1) 5 hsz.symm
      refine (lowest_any (fun _ => -1) (fun t => t) _ _ k (-1) _ (by omega) (by omega) (by omega) hcW (fun i hi => hrW.loc i hi) (fun i _ => by omega) (fun t _ => by rw [if_neg (by omega)])).mono ?_
      rintro e w' ⟨rfl, rfl⟩
      go_wp2_with fail
      go_loopw [7, 8] (fun y x w2 => ∃ i : Nat, i ≤ k ∧ x = .int .i64 i ∧ ∃ r : Int, y = .int .i64 r ∧ -1 ≤ r ∧ r < i ∧ (0 < i → 0 ≤ r) ∧ ∃ lo hi, TInv k i lo hi ∧ Tr w2 w.heap.size k pr lo hi ∧ (0 ≤ r → lowG lo r = 0) ∧ Below w.heap.size w w2 ∧ w2.cell? ⟨w.heap.size + 1, 5, none⟩ = some (.slice (some ⟨w.heap.size, 0, none⟩) k k)) (fun _ x _ => k - (intOf x).toNat)
      case atStart => exact ⟨0, Nat.zero_le _, rfl, -1, rfl, by omega, by omega, by omega, _, _, inv_lone k, hrW, by omega, hbW, hcW⟩
      case round =>
        clear hbW hrW hcW
        obtain ⟨i, hik, rfl, r, rfl, hr1, hr2, hr3, lo, hi, hinv, htr, hlow, hb2, hc2⟩ := hrel
        by_cases hlt2 : i < k
        · go_wp2_with fail
          refine (merge_any k i (w.heap.size + 1) w.heap.size (by omega) (by omega) hlt2 pr (i + 1) r lo hi _ hr1 hr2 (by omega) hinv htr hc2).mono ?_
          rintro e w' ⟨r', lo', hi', rfl, hp, htr', hbl', hc'⟩
          have hr0 := hp.r0
          have hrl := hp.rle
          have hinv' := hp.inv
          have H0 : Hid (lowG lo' r' = 0) := by
            show lowG lo' r' = 0
            rw [hp.low]
            by_cases e0 : r < 0
            · rw [if_pos e0]; omega
            · rw [if_neg e0]; exact hlow (by omega)
          have H1 : Hid (highG k hi' r' = i) := hp.high
          have HB2 : Hid (Below w.heap.size w w') := hb2.trans hbl'
          have HP : Hid (TInv k (i + 1) lo' hi') := hinv'
          clear hp hinv hlow hinv' hb2 hbl' htr hc2
          go_wp2_with fail
          refine (lowest_any lo' (lowG lo') _ _ k r' _ (by omega) (by omega) (by omega) hc' (fun j hj => htr'.loc j hj) (fun j hj => HP.out.los j hj) (lowG_eq lo' k (fun j hj => (HP.out.los j hj).2))).mono ?_
          rintro e w'' ⟨rfl, rfl⟩
          rw [H0.out]
          go_wp2_with fail
          refine (highest_any hi' (highG k hi') _ _ k r' _ (by omega) (by omega) (by omega) hc' (fun j hj => htr'.hic j hj) (fun j hj => ⟨(HP.out.his j hj).1, HP.out.up (by omega) j hj⟩) (highG_eq hi' k (HP.out.up (by omega)))).mono ?_
          rintro e w'' ⟨rfl, rfl⟩
          rw [H1.out]
          go_wp2_with fail
          go_roundw
          case rel => exact ⟨i + 1, by omega, by go_num, r', rfl, by omega, by omega, by omega, lo', hi', HP.out, htr', fun _ => H0.out, HB2.out, hc'⟩
          case measure => simp [intOf]; omega
        · go_wp2_with fail
          go_ret
          exact ⟨rfl, hb2⟩
end Go.Proofs.Ybulkcwpu
