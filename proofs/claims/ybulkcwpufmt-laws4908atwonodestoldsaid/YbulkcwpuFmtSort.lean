/-
  The walks of the library's stable sort at a slice of at most six numbers (functions 34, 41, 54), by the closure of 'stableSet' (35).
-/
import Derived.Test.YbulkcwpuFmtBase
import Derived.Deep.QuietTactic
import Derived.BigQuiet
import Derived.Lib.ReflectliteSwap
namespace Go.Proofs.YbulkcwpuFmt
open Go.RowKit Go.Lib
set_option linter.unusedVariables false

def cOf (ct : Nat → Int) : Int → Int := fun x => ct x.toNat

set_option maxHeartbeats 400000 in
/-- The closure of 'stableSet'. -/
theorem less_any (P2 P5 K O n : Nat) (ct g : Nat → Int) (w : World) (hn : n ≤ 6)
    (h2 : w.cell? ⟨P2, 0, none⟩ = some (.slice (some ⟨K, 0, none⟩) n n)) (h5 : w.cell? ⟨P5, 0, none⟩ = some (.slice (some ⟨O, 0, none⟩) n n))
    (hk : ∀ t, t < n → w.cell? ⟨K, t, none⟩ = some (.int .i64 (ct t))) (ho : ∀ t, t < n → w.cell? ⟨O, t, none⟩ = some (.int .i64 (g t))) (hg : In n g)
    (i j : Nat) (I J : Int) (hI : I = i) (hJ : J = j) (hi : i < n) (hj : j < n) :
    Calls Ybaf.prog 35 #[.int .i64 I, .int .i64 J, .pointer (some ⟨P2, 0, none⟩), .pointer (some ⟨P5, 0, none⟩)] w fun e w' => e = .returned (.bool (decide (cOf ct (g i) < cOf ct (g j)))) ∧ ∃ q, w' = w.drewN q := by
  subst hI
  subst hJ
  have gi := hg i hi
  have gj := hg j hj
  have oi := ho i hi
  have oj := ho j hj
  obtain ⟨a, ha⟩ : ∃ a : Nat, g i = a := ⟨(g i).toNat, by omega⟩
  obtain ⟨b, hb⟩ : ∃ b : Nat, g j = b := ⟨(g j).toNat, by omega⟩
  rw [ha] at gi oi
  rw [hb] at gj oj
  have ka := hk a (by omega)
  have kb := hk b (by omega)
  have HE : Hid (decide (cOf ct (g i) < cOf ct (g j)) = decide (ct a < ct b)) := by
    show decide (cOf ct (g i) < cOf ct (g j)) = _
    rw [ha, hb]; rfl
  have i1 : (0 : Int) ≤ (i : Int) := by omega
  have i2 : (i : Int) < (n : Int) := by omega
  have j1 : (0 : Int) ≤ (j : Int) := by omega
  have j2 : (j : Int) < (n : Int) := by omega
  clear ha hb hg hk ho
  rw [HE.out]
  go_enter Ybaf.func35, Ybaf.ntmps35
  go_wp2_with fail
  go_quiet (fail)
  go_wp2_with fail
  go_ret
  exact ⟨rfl, nq, rfl⟩

theorem info3 : (Ybaf.prog.info? 3).map (fun i => (i.zero, i.size, i.bytes)) = some (some (.int .i64 0), 1, 8) := by kernel_rfl

/-- The exchange that the library's swapper makes. -/
theorem swap_run (O n i j : Nat) (I J : Int) (hI : I = i) (hJ : J = j) (g : Nat → Int) (w : World) (hi : i < n) (hj : j < n) (hr : Row w O n (fun t => .int .i64 (g t))) :
    (callFunc 49 #[.int .i64 I, .int .i64 J, .slice (some ⟨O, 0, none⟩) n n, typeHandle Ybaf.prog 3]).run Ybaf.prog w = .ok (.value (.tuple #[])) ((w.setCell ⟨O, i, none⟩ (.int .i64 (g j))).setCell ⟨O, j, none⟩ (.int .i64 (g i))) := by
  subst hI
  subst hJ
  obtain ⟨i0, hi0, hz0, hz1, hz2⟩ := info_parts info3
  rw [run_callFunc_extern Ybaf.func49 (by kernel_rfl) (by kernel_rfl) (by kernel_rfl) (e := Extern.ReflectliteSwapper.swap true) (by kernel_rfl)]
  have r := run_swap_one (P := Ybaf.prog) true 3 i0 hi0 hz1 (fun w => by kernel_rfl) O 0 n n i j hi hj (.int .i64 (g i)) (.int .i64 (g j)) rfl rfl w
    (by rw [Nat.zero_add]; exact hr.cell i hi) (by rw [Nat.zero_add]; exact hr.cell j hj) (by rw [Nat.zero_add]; exact hr.free i hi) (by rw [Nat.zero_add]; exact hr.free j hj)
  rw [r, Nat.zero_add, Nat.zero_add]
  rfl

theorem row_swp {w : World} {O n i j : Nat} {g : Nat → Int} (hr : Row w O n (fun t => .int .i64 (g t))) (hi : i < n) (hj : j < n) (hij : i ≠ j) :
    Row ((w.setCell ⟨O, i, none⟩ (.int .i64 (g j))).setCell ⟨O, j, none⟩ (.int .i64 (g i))) O n (fun t => .int .i64 (swp g i j t)) := by
  refine ((hr.set hi _).set hj _).congr fun t ht => ?_
  unfold swp
  by_cases e2 : t = j
  · subst e2
    rw [upd_same, if_neg (by omega), if_pos rfl]
  · rw [upd_ne _ _ _ _ e2]
    by_cases e1 : t = i
    · subst e1; rw [upd_same, if_pos rfl]
    · rw [upd_ne _ _ _ _ e1, if_neg e1, if_neg e2]

/-- What the sort needs of memory. -/
structure Srt (w : World) (P2 P5 K O n : Nat) (ct g : Nat → Int) : Prop where
  h2 : w.cell? ⟨P2, 0, none⟩ = some (.slice (some ⟨K, 0, none⟩) n n)
  h5 : w.cell? ⟨P5, 0, none⟩ = some (.slice (some ⟨O, 0, none⟩) n n)
  hk : ∀ t, t < n → w.cell? ⟨K, t, none⟩ = some (.int .i64 (ct t))
  ho : Row w O n (fun t => .int .i64 (g t))
  ne : P2 ≠ O ∧ P5 ≠ O ∧ K ≠ O
  lt : P2 < w.heap.size ∧ P5 < w.heap.size ∧ K < w.heap.size ∧ O < w.heap.size

theorem Srt.drewN {w : World} {P2 P5 K O n q : Nat} {ct g : Nat → Int} (h : Srt w P2 P5 K O n ct g) : Srt (w.drewN q) P2 P5 K O n ct g := ⟨h.h2, h.h5, h.hk, h.ho.drewN, h.ne, h.lt⟩

theorem Srt.swap {w : World} {P2 P5 K O n i j : Nat} {ct g : Nat → Int} (h : Srt w P2 P5 K O n ct g) (hi : i < n) (hj : j < n) (hij : i ≠ j) :
    Srt ((w.setCell ⟨O, i, none⟩ (.int .i64 (g j))).setCell ⟨O, j, none⟩ (.int .i64 (g i))) P2 P5 K O n ct (swp g i j) := by
  have far : ∀ (B o : Nat), B ≠ O → ((w.setCell ⟨O, i, none⟩ (.int .i64 (g j))).setCell ⟨O, j, none⟩ (.int .i64 (g i))).cell? ⟨B, o, none⟩ = w.cell? ⟨B, o, none⟩ := by
    intro B o hB
    rw [World.cell?_setCell_other _ _ _ _ (by intro e; cases e; exact hB rfl), World.cell?_setCell_other _ _ _ _ (by intro e; cases e; exact hB rfl)]
  refine ⟨by rw [far _ _ h.ne.1]; exact h.h2, by rw [far _ _ h.ne.2.1]; exact h.h5, fun t ht => by rw [far _ _ h.ne.2.2]; exact h.hk t ht, row_swp h.ho hi hj hij, h.ne, by simpa using h.lt⟩

theorem Srt.alloc {w : World} {P2 P5 K O n : Nat} {ct g : Nat → Int} (h : Srt w P2 P5 K O n ct g) (o : Obj) : Srt (w.alloc o) P2 P5 K O n ct g := by
  have hf := (Fr.refl (fun _ => False) w).alloc o
  refine ⟨(hf.cell (p := ⟨P2, 0, none⟩) h.lt.1 (fun h => h)).trans h.h2, (hf.cell (p := ⟨P5, 0, none⟩) h.lt.2.1 (fun h => h)).trans h.h5, fun t ht => (hf.cell (p := ⟨K, t, none⟩) h.lt.2.2.1 (fun h => h)).trans (h.hk t ht), h.ho.fr hf h.lt.2.2.2 (fun h => h), h.ne, ?_⟩
  have := h.lt; simp; omega


theorem ins_step (c : Int → Int) (i : Nat) (hi : 1 ≤ i) : insOut c i = insIn c i (insOut c (i - 1)) := by
  obtain ⟨k, rfl⟩ : ∃ k, i = k + 1 := ⟨i - 1, by omega⟩
  rfl

theorem two_far {w : World} {B O o i j : Nat} {x y : Value} (hB : B ≠ O) : ((w.setCell ⟨O, i, none⟩ x).setCell ⟨O, j, none⟩ y).cell? ⟨B, o, none⟩ = w.cell? ⟨B, o, none⟩ := by
  rw [World.cell?_setCell_other _ _ _ _ (by intro e; cases e; exact hB rfl), World.cell?_setCell_other _ _ _ _ (by intro e; cases e; exact hB rfl)]

set_option maxHeartbeats 800000 in
theorem insertion_any (P2 P5 K O n : Nat) (ct : Nat → Int) (w : World) (hn : n ≤ 6) (hn2 : 2 ≤ n) (hs : Srt w P2 P5 K O n ct (fun k => (k : Int))) :
    Calls Ybaf.prog 54 #[.agg #[.func (.func 35) #[] #[.pointer (some ⟨P2, 0, none⟩), .pointer (some ⟨P5, 0, none⟩)], .func (.func 49) #[] #[.slice (some ⟨O, 0, none⟩) n n, typeHandle Ybaf.prog 3]], .int .i64 0, .int .i64 n] w
      fun e w' => e = .returned (.tuple #[]) ∧ Srt w' P2 P5 K O n ct (insOut (cOf ct) (n - 1)) ∧ Fr (· = O) w w' := by
  generalize hH : typeHandle Ybaf.prog 3 = Hd
  have hO : w.heap.size ≠ O := by have := hs.lt; omega
  have HS : Hid (Srt (w.alloc (.cells #[.func (.func 35) #[] #[.pointer (some ⟨P2, 0, none⟩), .pointer (some ⟨P5, 0, none⟩)], .func (.func 49) #[] #[.slice (some ⟨O, 0, none⟩) n n, Hd]] 94)) P2 P5 K O n ct (fun k => (k : Int))) := hs.alloc _
  have HF : Hid (Fr (· = O) w (w.alloc (.cells #[.func (.func 35) #[] #[.pointer (some ⟨P2, 0, none⟩), .pointer (some ⟨P5, 0, none⟩)], .func (.func 49) #[] #[.slice (some ⟨O, 0, none⟩) n n, Hd]] 94))) := (Fr.refl _ w).alloc _
  have HH : Hid (typeHandle Ybaf.prog 3 = Hd) := hH
  clear hs hH
  go_enter Ybaf.func54, Ybaf.ntmps54
  go_wp2_with fail
  go_loopw [6] (fun x wr => ∃ i : Nat, 1 ≤ i ∧ i ≤ n ∧ x = .int .i64 i ∧ Srt wr P2 P5 K O n ct (insOut (cOf ct) (i - 1)) ∧ Fr (· = O) w wr ∧
      wr.cell? ⟨w.heap.size, 0, none⟩ = some (.func (.func 35) #[] #[.pointer (some ⟨P2, 0, none⟩), .pointer (some ⟨P5, 0, none⟩)]) ∧
      wr.cell? ⟨w.heap.size, 1, none⟩ = some (.func (.func 49) #[] #[.slice (some ⟨O, 0, none⟩) n n, Hd])) (fun x _ => n - (intOf x).toNat)
  case atStart => exact ⟨1, by omega, by omega, rfl, HS.out, HF.out, by simp, by simp⟩
  case round =>
    obtain ⟨i, hi1, hi2, rfl, hs, hf, hd0, hd1⟩ := hrel
    by_cases hlt : i < n
    · go_wp2_with fail
      go_loopw [7] (fun x w2 => ∃ j : Nat, j ≤ i ∧ x = .int .i64 j ∧ ∃ g, Srt w2 P2 P5 K O n ct g ∧ In n g ∧ Hid (insIn (cOf ct) j g = insIn (cOf ct) i (insOut (cOf ct) (i - 1))) ∧ Fr (· = O) w w2 ∧
          w2.cell? ⟨w.heap.size, 0, none⟩ = some (.func (.func 35) #[] #[.pointer (some ⟨P2, 0, none⟩), .pointer (some ⟨P5, 0, none⟩)]) ∧
          w2.cell? ⟨w.heap.size, 1, none⟩ = some (.func (.func 49) #[] #[.slice (some ⟨O, 0, none⟩) n n, Hd])) (fun x _ => (intOf x).toNat)
      case atStart => exact ⟨i, Nat.le_refl _, rfl, _, hs, in_insOut _ _ (by omega), rfl, hf, hd0, hd1⟩
      case round =>
        clear hs hf hd0 hd1
        obtain ⟨j, hji, rfl, g, hs, hg, HI, hf, hd0, hd1⟩ := hrel
        by_cases hj0 : j = 0
        · subst hj0
          have hdec : decide ((0 : Int) < ((0 : Nat) : Int)) = false := by decide
          go_wp2_with fail
          go_roundw
          case rel => exact ⟨i + 1, by omega, by omega, by go_num, by rw [Nat.add_sub_cancel, ins_step (cOf ct) i hi1, ← HI.out]; exact hs, hf, hd0, hd1⟩
          case measure => simp [intOf]; omega
        · obtain ⟨m, rfl⟩ : ∃ m, j = m + 1 := ⟨j - 1, by omega⟩
          have jp : (0 : Int) < (m : Int) + 1 := by omega
          by_cases hc : cOf ct (g (m + 1)) < cOf ct (g m)
          · have hsw : ∀ q, (callFunc 49 #[.int .i64 ((m : Int) + 1), .int .i64 (m : Int), .slice (some ⟨O, 0, none⟩) n n, Hd]).run Ybaf.prog (wr.drewN q) = .ok (.value (.tuple #[])) (((wr.drewN q).setCell ⟨O, m + 1, none⟩ (.int .i64 (g m))).setCell ⟨O, m, none⟩ (.int .i64 (g (m + 1)))) := by
              intro q
              rw [← HH.out]
              exact swap_run O n (m + 1) m _ _ (by omega) rfl g _ (by omega) (by omega) hs.ho.drewN
            have HN : Hid (insIn (cOf ct) m (swp g (m + 1) m) = insIn (cOf ct) i (insOut (cOf ct) (i - 1))) := by
              have := HI.out
              rw [insIn, if_pos hc] at this
              exact this
            have hg' : In n (swp g (m + 1) m) := in_swp hg (by omega) (by omega)
            go_wp2_with (go_at_call 35; refine (less_any P2 P5 K O n ct g _ hn hs.h2 hs.h5 hs.hk (fun t ht => hs.ho.cell t ht) hg (m + 1) m _ _ (by omega) (by omega) (by omega) (by omega)).mono ?_; rintro e w3 ⟨rfl, q, rfl⟩)
            go_roundw
            case rel => exact ⟨m, by omega, by go_num, _, hs.drewN.swap (by omega) (by omega) (by omega), hg', HN.out, (hf.drewN.setCell (Or.inl rfl) _).setCell (Or.inl rfl) _, by rw [two_far hO]; exact hd0, by rw [two_far hO]; exact hd1⟩
            case measure => simp [intOf]
          · have HN : Hid (g = insIn (cOf ct) i (insOut (cOf ct) (i - 1))) := by
              have := HI.out
              rw [insIn, if_neg hc] at this
              exact this
            have hc' : cOf ct (g m) ≤ cOf ct (g (m + 1)) := by omega
            go_wp2_with (go_at_call 35; refine (less_any P2 P5 K O n ct g _ hn hs.h2 hs.h5 hs.hk (fun t ht => hs.ho.cell t ht) hg (m + 1) m _ _ (by omega) (by omega) (by omega) (by omega)).mono ?_; rintro e w3 ⟨rfl, q, rfl⟩)
            go_roundw
            case rel => exact ⟨i + 1, by omega, by omega, by go_num, by rw [Nat.add_sub_cancel, ins_step (cOf ct) i hi1, ← HN.out]; exact hs.drewN, hf.drewN, hd0, hd1⟩
            case measure => simp [intOf]; omega
    · have hin : i = n := by omega
      subst hin
      go_wp2_with fail
      go_end0
      exact ⟨rfl, hs, hf⟩

set_option maxHeartbeats 400000 in
theorem insertion_one (P2 P5 K O : Nat) (ct : Nat → Int) (g1 g2 : Fn) (a1 a2 b1 b2 : Array Value) (w : World) (hs : Srt w P2 P5 K O 1 ct (fun k => (k : Int))) :
    Calls Ybaf.prog 54 #[.agg #[.func g1 a1 b1, .func g2 a2 b2], .int .i64 0, .int .i64 ((1 : Nat) : Int)] w
      fun e w' => e = .returned (.tuple #[]) ∧ Srt w' P2 P5 K O 1 ct (insOut (cOf ct) (1 - 1)) ∧ Fr (· = O) w w' := by
  have HS : Hid (Srt (w.alloc (.cells #[.func g1 a1 b1, .func g2 a2 b2] 94)) P2 P5 K O 1 ct (fun k => (k : Int))) := hs.alloc _
  clear hs
  go_enter Ybaf.func54, Ybaf.ntmps54
  go_wp2_with fail
  refine wp_loop_rounds 1 ?_
  rw [rounds_succ]
  go_wp2_with fail
  go_end0
  exact ⟨rfl, HS.out, (Fr.refl _ w).alloc _⟩

/-- The two functions that 'sort.SliceStable' hands on, at n elements. -/
theorem insertion_both (P2 P5 K O n : Nat) (ct : Nat → Int) (hn : n ≤ 6) (hn1 : 1 ≤ n) (g2 : Fn) (b2 : Array Value) (h2 : 2 ≤ n → g2 = .func 49 ∧ b2 = #[.slice (some ⟨O, 0, none⟩) n n, typeHandle Ybaf.prog 3])
    (w : World) (hs : Srt w P2 P5 K O n ct (fun k => (k : Int))) :
    Calls Ybaf.prog 54 #[.agg #[.func (.func 35) #[] #[.pointer (some ⟨P2, 0, none⟩), .pointer (some ⟨P5, 0, none⟩)], .func g2 #[] b2], .int .i64 0, .int .i64 n] w
      fun e w' => e = .returned (.tuple #[]) ∧ Srt w' P2 P5 K O n ct (insOut (cOf ct) (n - 1)) ∧ Fr (· = O) w w' := by
  by_cases h : 2 ≤ n
  · obtain ⟨rfl, rfl⟩ := h2 h
    exact insertion_any P2 P5 K O n ct w hn h hs
  · obtain rfl : n = 1 := by omega
    exact insertion_one P2 P5 K O ct _ _ _ _ _ _ w hs

set_option maxHeartbeats 400000 in
theorem stable_any (P2 P5 K O n : Nat) (ct : Nat → Int) (hn : n ≤ 6) (hn1 : 1 ≤ n) (g2 : Fn) (b2 : Array Value) (h2 : 2 ≤ n → g2 = .func 49 ∧ b2 = #[.slice (some ⟨O, 0, none⟩) n n, typeHandle Ybaf.prog 3])
    (w : World) (hs : Srt w P2 P5 K O n ct (fun k => (k : Int))) :
    Calls Ybaf.prog 41 #[.agg #[.func (.func 35) #[] #[.pointer (some ⟨P2, 0, none⟩), .pointer (some ⟨P5, 0, none⟩)], .func g2 #[] b2], .int .i64 n] w
      fun e w' => e = .returned (.tuple #[]) ∧ Srt w' P2 P5 K O n ct (insOut (cOf ct) (n - 1)) ∧ Fr (· = O) w w' := by
  have H : Hid (∀ w, Srt w P2 P5 K O n ct (fun k => (k : Int)) → Calls Ybaf.prog 54 #[.agg #[.func (.func 35) #[] #[.pointer (some ⟨P2, 0, none⟩), .pointer (some ⟨P5, 0, none⟩)], .func g2 #[] b2], .int .i64 0, .int .i64 n] w
      fun e w' => e = .returned (.tuple #[]) ∧ Srt w' P2 P5 K O n ct (insOut (cOf ct) (n - 1)) ∧ Fr (· = O) w w') := fun w hs => insertion_both P2 P5 K O n ct hn hn1 g2 b2 h2 w hs
  have HS : Hid (Srt (w.alloc (.cells #[.func (.func 35) #[] #[.pointer (some ⟨P2, 0, none⟩), .pointer (some ⟨P5, 0, none⟩)], .func g2 #[] b2] 94)) P2 P5 K O n ct (fun k => (k : Int))) := hs.alloc _
  have n1 : (n : Int) < 20 := by omega
  have hz : Hid (w.heap.size ≠ O) := by have := hs.lt; show w.heap.size ≠ O; omega
  clear hs h2
  go_enter Ybaf.func41, Ybaf.ntmps41
  go_wp2_with fail
  refine wp_loop_rounds 1 ?_
  rw [rounds_succ]
  go_wp2_with fail
  refine (H.out _ HS.out).mono ?_
  rintro e w' ⟨rfl, hs', hf'⟩
  go_wp2_with fail
  refine wp_loop_rounds 1 ?_
  rw [rounds_succ]
  go_wp2_with fail
  go_end0
  exact ⟨rfl, hs', ((Fr.refl _ w).alloc _).trans hf'⟩

theorem info22 : (Ybaf.prog.info? 22).map (fun i => i.desc) = some (.slice 3) := by kernel_rfl
theorem info3b : (Ybaf.prog.info? 3).map (fun i => (i.hasPointers, i.bytes)) = some (false, 8) := by kernel_rfl

/-- A body-less function that the model stands in for. -/
theorem extern_of {P : Program} {f : FuncId} {fn : Func} {args : Array Value} {w w' : World} {v : Value} {e : Array Value → Sem Value} (hs : (e args).run P w = .ok v w') (hf : P.funcs[f]? = some fn) (hname : (fn.name == "runtime.NumGoroutine") = false)
    (hb : fn.body.isNone = true) (hn : Extern.findNext fn = none) (he : Extern.find fn = some e) : (callFunc f args).run P w = .ok (.value v) w' := by
  rw [run_callFunc_extern hf hname hb hn he, hs]
  rfl

theorem valueOf_run (p : Option Addr) (n c : Nat) (w : World) : (callFunc 39 #[.iface 22 (.slice p n c)]).run Ybaf.prog w = .ok (.value (.agg #[typeHandle Ybaf.prog 22, .pointer (some ⟨w.heap.size, 0, none⟩), .int .u64 151])) (w.alloc (.cells #[.slice p n c] 22)) := by
  obtain ⟨i, hi, hd⟩ := Option.map_eq_some_iff.1 info22
  have hs := run_valueOf_slice (P := Ybaf.prog) 22 3 i hi hd p n c w
  exact extern_of (args := #[.iface 22 (.slice p n c)]) (e := fun args => Extern.ReflectliteValue.unpack (args.getD 0 (.tuple #[]))) hs Ybaf.func39 (by kernel_rfl) (by kernel_rfl) (by kernel_rfl) (by kernel_rfl)

theorem len_run (a : Addr) (p : Option Addr) (n c : Nat) (w : World) (ha : w.cell? a = some (.slice p n c)) : (callFunc 42 #[.agg #[typeHandle Ybaf.prog 22, .pointer (some a), .int .u64 151]]).run Ybaf.prog w = .ok (.value (.int .i64 n)) w := by
  obtain ⟨i, hi, hd⟩ := Option.map_eq_some_iff.1 info22
  have hs := run_valueLen_slice (P := Ybaf.prog) 22 3 i hi hd (by kernel_rfl) a p n c w ha
  exact extern_of (args := #[.agg #[typeHandle Ybaf.prog 22, .pointer (some a), .int .u64 151]]) hs Ybaf.func42 (by kernel_rfl) (by kernel_rfl) (by kernel_rfl) (by kernel_rfl)

theorem swK (ie : TypeInfo) (hp : ie.hasPointers = false) (hb : ie.bytes = 8) (n : Nat) (hn1 : 1 ≤ n) : swapperK n ie 2 = if n = 1 then 2 else 5 := by
  have h0 : (n == 0) = false := by simp; omega
  unfold swapperK
  by_cases h : n = 1
  · subst h; simp
  · have h1 : (n == 1) = false := by simpa using h
    simp [h0, h1, hp, hb, h]

theorem swapper_run (O n : Nat) (hn1 : 1 ≤ n) : ∃ g2 b2, (∀ w, (callFunc 40 #[.iface 22 (.slice (some ⟨O, 0, none⟩) n n)]).run Ybaf.prog w = .ok (.value (.func g2 #[] b2)) w) ∧ (2 ≤ n → g2 = .func 49 ∧ b2 = #[.slice (some ⟨O, 0, none⟩) n n, typeHandle Ybaf.prog 3]) := by
  obtain ⟨i, hi, hd⟩ := Option.map_eq_some_iff.1 info22
  obtain ⟨ie, hie, he⟩ := Option.map_eq_some_iff.1 info3b
  simp only [Prod.mk.injEq] at he
  have hK := swK ie he.1 he.2 n hn1
  by_cases h : n = 1
  · refine ⟨.func 46, #[], fun w => ?_, fun h2 => by omega⟩
    rw [if_pos h] at hK
    have hs := run_swapper_slice (P := Ybaf.prog) 22 3 i ie hi hd hie 2 (fun w => by kernel_rfl) (some ⟨O, 0, none⟩) n n 46 (by rw [hK]; kernel_rfl) w
    rw [hK, if_pos (by omega)] at hs
    exact extern_of (args := #[.iface 22 (.slice (some ⟨O, 0, none⟩) n n)]) hs Ybaf.func40 (by kernel_rfl) (by kernel_rfl) (by kernel_rfl) (by kernel_rfl)
  · refine ⟨.func 49, #[.slice (some ⟨O, 0, none⟩) n n, typeHandle Ybaf.prog 3], fun w => ?_, fun h2 => ⟨rfl, rfl⟩⟩
    rw [if_neg h] at hK
    have hs := run_swapper_slice (P := Ybaf.prog) 22 3 i ie hi hd hie 2 (fun w => by kernel_rfl) (some ⟨O, 0, none⟩) n n 49 (by rw [hK]; kernel_rfl) w
    rw [hK, if_neg (by omega)] at hs
    exact extern_of (args := #[.iface 22 (.slice (some ⟨O, 0, none⟩) n n)]) hs Ybaf.func40 (by kernel_rfl) (by kernel_rfl) (by kernel_rfl) (by kernel_rfl)

set_option maxHeartbeats 400000 in
theorem sliceStable_any (P2 P5 K O n : Nat) (ct : Nat → Int) (hn : n ≤ 6) (hn1 : 1 ≤ n) (w : World) (hs : Srt w P2 P5 K O n ct (fun k => (k : Int))) :
    Calls Ybaf.prog 34 #[.iface 22 (.slice (some ⟨O, 0, none⟩) n n), .func (.func 35) #[] #[.pointer (some ⟨P2, 0, none⟩), .pointer (some ⟨P5, 0, none⟩)]] w
      fun e w' => e = .returned (.tuple #[]) ∧ Srt w' P2 P5 K O n ct (insOut (cOf ct) (n - 1)) ∧ Fr (· = O) w w' := by
  have v1 := valueOf_run (some ⟨O, 0, none⟩) n n w
  obtain ⟨g2, b2, v2, h2⟩ := swapper_run O n hn1
  obtain ⟨ad, hH⟩ : ∃ ad, typeHandle Ybaf.prog 22 = .pointer (some ad) := ⟨_, rfl⟩
  rw [hH] at v1
  have v3 := fun (W : World) (a : Addr) (ha : W.cell? a = some (.slice (some ⟨O, 0, none⟩) n n)) => len_run a (some ⟨O, 0, none⟩) n n W ha
  rw [hH] at v3
  clear hH
  have HS : Hid (∀ (o1 o2 : Obj), Srt ((w.alloc o1).alloc o2) P2 P5 K O n ct (fun k => (k : Int))) := fun o1 o2 => (hs.alloc o1).alloc o2
  have H2 : Hid (2 ≤ n → g2 = .func 49 ∧ b2 = #[.slice (some ⟨O, 0, none⟩) n n, typeHandle Ybaf.prog 3]) := h2
  have hsO : w.heap.size ≠ O ∧ w.heap.size + 1 ≠ O := by have := hs.lt; omega
  clear h2 hs
  go_enter Ybaf.func34, Ybaf.ntmps34
  go_wp2_with fail
  refine (stable_any P2 P5 K O n ct hn hn1 g2 b2 H2.out _ (HS.out _ _)).mono ?_
  rintro e w' ⟨rfl, hs', hf'⟩
  go_wp2_with fail
  go_end0
  exact ⟨rfl, hs', (((Fr.refl _ w).alloc _).alloc _).trans hf'⟩
end Go.Proofs.YbulkcwpuFmt
