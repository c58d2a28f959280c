/-
  What 'LawS4908AIgnored' holds while it copies a node's state out: the node, and four rows of its own. No Go text in sight.
-/
import Derived.Test.YbulkcwpuFmtFresh
import Derived.Test.YbulkcwpuFmtCopy
import Derived.Test.YbulkcwpuFmtIgn
namespace Go.Proofs.YbulkcwpuFmt
open Go.RowKit Go.Lib
set_option linter.unusedVariables false

theorem Mem.out {d : Nd} {w : World} {st : St} (h : Mem d w st) {p : Addr} (hp : ¬ Own d p.block) (v : Value) : Mem d (w.setCell p v) st := by
  have n : ∀ {x}, Own d x → p.block ≠ x := fun hx e => hp (by rw [e]; exact hx)
  exact ⟨h.C.other (n (by simp [Own])) _, h.V.other (n (by simp [Own])) _, h.K.other (n (by simp [Own])) _, h.U.other (n (by simp [Own])) _, h.A.other (n (by simp [Own])) _, h.L.other (n (by simp [Own])) _,
    h.T.other (n (by simp [Own])) _, h.H.other (n (by simp [Own])) _, ltz h _ _⟩

/-- The four rows lie apart, past the node. -/
structure Far (d : Nd) (p q r s : Nat) : Prop where
  pq : p < q
  qr : q < r
  rs : r < s
  lt : d.C < p ∧ d.V < p ∧ d.K < p ∧ d.U < p ∧ d.A < p ∧ d.L < p ∧ d.T < p ∧ d.H < p

structure Cpy (d : Nd) (st : St) (p q r s : Nat) (w : World) (h1 h2 h3 h4 : Nat → Value) : Prop where
  mem : Mem d w st
  rp : Row w p d.n h1
  rq : Row w q d.n h2
  rr : Row w r d.n h3
  rs : Row w s (d.n * 3) h4
  lt : s < w.heap.size

section
variable {d : Nd} {st : St} {p q r s : Nat} {w : World} {h1 h2 h3 h4 : Nat → Value}
theorem Far.own (f : Far d p q r s) {k : Nat} (hk : p ≤ k) : ¬ Own d k := by have := f.lt; unfold Own; omega
theorem Cpy.set1 (h : Cpy d st p q r s w h1 h2 h3 h4) (f : Far d p q r s) {j : Nat} (hj : j < d.n) (v : Value) : Cpy d st p q r s (w.setCell ⟨p, j, none⟩ v) (upd h1 j v) h2 h3 h4 := by
  have a := f.pq; have b := f.qr; have c := f.rs
  exact ⟨h.mem.out (f.own (Nat.le_refl _)) _, h.rp.set hj v, h.rq.other (by show p ≠ q; omega) _, h.rr.other (by show p ≠ r; omega) _, h.rs.other (by show p ≠ s; omega) _, by have := h.lt; simpa [World.setCell] using this⟩
theorem Cpy.set2 (h : Cpy d st p q r s w h1 h2 h3 h4) (f : Far d p q r s) {j : Nat} (hj : j < d.n) (v : Value) : Cpy d st p q r s (w.setCell ⟨q, j, none⟩ v) h1 (upd h2 j v) h3 h4 := by
  have a := f.pq; have b := f.qr; have c := f.rs
  exact ⟨h.mem.out (f.own (by show p ≤ q; omega)) _, h.rp.other (by show q ≠ p; omega) _, h.rq.set hj v, h.rr.other (by show q ≠ r; omega) _, h.rs.other (by show q ≠ s; omega) _, by have := h.lt; simpa [World.setCell] using this⟩
theorem Cpy.set3 (h : Cpy d st p q r s w h1 h2 h3 h4) (f : Far d p q r s) {j : Nat} (hj : j < d.n) (v : Value) : Cpy d st p q r s (w.setCell ⟨r, j, none⟩ v) h1 h2 (upd h3 j v) h4 := by
  have a := f.pq; have b := f.qr; have c := f.rs
  exact ⟨h.mem.out (f.own (by show p ≤ r; omega)) _, h.rp.other (by show r ≠ p; omega) _, h.rq.other (by show r ≠ q; omega) _, h.rr.set hj v, h.rs.other (by show r ≠ s; omega) _, by have := h.lt; simpa [World.setCell] using this⟩
theorem Cpy.set4 (h : Cpy d st p q r s w h1 h2 h3 h4) (f : Far d p q r s) {j : Nat} (hj : j < d.n * 3) (v : Value) : Cpy d st p q r s (w.setCell ⟨s, j, none⟩ v) h1 h2 h3 (upd h4 j v) := by
  have a := f.pq; have b := f.qr; have c := f.rs
  exact ⟨h.mem.out (f.own (by show p ≤ s; omega)) _, h.rp.other (by show s ≠ p; omega) _, h.rq.other (by show s ≠ q; omega) _, h.rr.other (by show s ≠ r; omega) _, h.rs.set hj v, by have := h.lt; simpa [World.setCell] using this⟩
theorem Cpy.below {w' : World} (h : Cpy d st p q r s w h1 h2 h3 h4) (f : Far d p q r s) (hb : Below w.heap.size w w') : Cpy d st p q r s w' h1 h2 h3 h4 := by
  have a := f.pq; have b := f.qr; have c := f.rs; have e := h.lt; have z := hb.size
  exact ⟨h.mem.below hb, h.rp.below hb (by omega), h.rq.below hb (by omega), h.rr.below hb (by omega), h.rs.below hb (by omega), by omega⟩
theorem Cpy.drewN (h : Cpy d st p q r s w h1 h2 h3 h4) (k : Nat) : Cpy d st p q r s (w.drewN k) h1 h2 h3 h4 := ⟨h.mem.drewN k, h.rp.drewN, h.rq.drewN, h.rr.drewN, h.rs.drewN, h.lt⟩

/-- How much of the node's state the rows hold. -/
structure Got (st : St) (m : Nat) (h1 h2 h3 h4 : Nat → Value) : Prop where
  a : ∀ i, i < m → h1 i = .int .i64 (st.vals i)
  b : ∀ i, i < m → h2 i = .int .i64 (st.ctrs i)
  c : ∀ i, i < m → h3 i = .int .i64 (st.vch i)
  e : ∀ i, i < m * 3 → h4 i = cL st i

theorem Got.step {m : Nat} (h : Got st m h1 h2 h3 h4) : Got st (m + 1) (upd h1 m (.int .i64 (st.vals m))) (upd h2 m (.int .i64 (st.ctrs m))) (upd h3 m (.int .i64 (st.vch m)))
    (upd (upd (upd h4 (m * 3) (.int .i64 m)) (m * 3 + 1) (.int .i64 (st.lval m))) (m * 3 + 2) (.int .i64 (st.lctr m))) := by
  refine ⟨fun i hi => ?_, fun i hi => ?_, fun i hi => ?_, fun i hi => ?_⟩
  · unfold upd; split
    · rename_i e; rw [e]
    · exact h.a i (by omega)
  · unfold upd; split
    · rename_i e; rw [e]
    · exact h.b i (by omega)
  · unfold upd; split
    · rename_i e; rw [e]
    · exact h.c i (by omega)
  · unfold upd
    split
    · rename_i e; subst e; unfold cL; rw [if_neg (by omega), if_neg (by omega), show (m * 3 + 2) / 3 = m by omega]
    · split
      · rename_i e; subst e; unfold cL; rw [if_neg (by omega), if_pos (by omega), show (m * 3 + 1) / 3 = m by omega]
      · split
        · rename_i e; subst e; unfold cL; rw [if_pos (by omega), Nat.mul_div_cancel m (by omega : 0 < 3)]
        · exact h.e i (by omega)

/-- The four makes. -/
theorem four (d : Nd) (st : St) (w : World) (hM : Mem d w st) (hn : d.n ≤ 6) :
    ∃ x1 x2 x3 x4 q r s, (Instr.makeSlice 44 (.int .i64 d.n) (.int .i64 d.n)).run Ybaf.prog w = .ok (.slice (some ⟨w.heap.size, 0, none⟩) d.n d.n) x1 ∧
      (Instr.makeSlice 22 (.int .i64 d.n) (.int .i64 d.n)).run Ybaf.prog x1 = .ok (.slice (some ⟨q, 0, none⟩) d.n d.n) x2 ∧ (Instr.makeSlice 22 (.int .i64 d.n) (.int .i64 d.n)).run Ybaf.prog x2 = .ok (.slice (some ⟨r, 0, none⟩) d.n d.n) x3 ∧
      (Instr.makeSlice 27 (.int .i64 d.n) (.int .i64 d.n)).run Ybaf.prog x3 = .ok (.slice (some ⟨s, 0, none⟩) d.n d.n) x4 ∧ Far d w.heap.size q r s ∧ Below w.heap.size w x4 ∧ ∃ h1 h2 h3 h4, Cpy d st w.heap.size q r s x4 h1 h2 h3 h4 := by
  have m1 := fun w => run6 d.n hn 0 w
  have m2 := fun w => run6 d.n hn 1 w
  have m4 := fun w => run6 d.n hn 4 w
  have f1 := (Fr.refl (fun _ => False) w).alloc (.cells (cs6 d.n 0) (el6 0))
  have hl := hM.lt
  have B4 := (((Below.refl w.heap.size w).alloc (Nat.le_refl _) (.cells (cs6 d.n 0) (el6 0))).alloc (by simp) (.cells (cs6 d.n 1) (el6 1)) |>.alloc (by simp <;> omega) (.cells (cs6 d.n 1) (el6 1))).alloc (by simp <;> omega) (.cells (cs6 d.n 4) (el6 4))
  have R1 : Row ((((w.alloc (.cells (cs6 d.n 0) (el6 0))).alloc (.cells (cs6 d.n 1) (el6 1))).alloc (.cells (cs6 d.n 1) (el6 1))).alloc (.cells (cs6 d.n 4) (el6 4))) w.heap.size d.n (fun j => (cs6 d.n 0).getD j undef) := by
    have r := Row.new w (cs6 d.n 0) (el6 0)
    rw [show (cs6 d.n 0).size = d.n by simp [cs6, size_madeCells]] at r
    exact ((r.fr ((Fr.refl (fun _ => False) _).alloc _) (by simp) (fun h => h)).fr ((Fr.refl (fun _ => False) _).alloc _) (by simp <;> omega) (fun h => h)).fr ((Fr.refl (fun _ => False) _).alloc _) (by simp <;> omega) (fun h => h)
  have R2 : Row ((((w.alloc (.cells (cs6 d.n 0) (el6 0))).alloc (.cells (cs6 d.n 1) (el6 1))).alloc (.cells (cs6 d.n 1) (el6 1))).alloc (.cells (cs6 d.n 4) (el6 4))) (w.alloc (.cells (cs6 d.n 0) (el6 0))).heap.size d.n (fun j => (cs6 d.n 1).getD j undef) := by
    have r := Row.new (w.alloc (.cells (cs6 d.n 0) (el6 0))) (cs6 d.n 1) (el6 1)
    rw [show (cs6 d.n 1).size = d.n by simp [cs6, size_madeCells]] at r
    exact (r.fr ((Fr.refl (fun _ => False) _).alloc _) (by simp) (fun h => h)).fr ((Fr.refl (fun _ => False) _).alloc _) (by simp <;> omega) (fun h => h)
  have R3 : Row ((((w.alloc (.cells (cs6 d.n 0) (el6 0))).alloc (.cells (cs6 d.n 1) (el6 1))).alloc (.cells (cs6 d.n 1) (el6 1))).alloc (.cells (cs6 d.n 4) (el6 4))) ((w.alloc (.cells (cs6 d.n 0) (el6 0))).alloc (.cells (cs6 d.n 1) (el6 1))).heap.size d.n (fun j => (cs6 d.n 1).getD j undef) := by
    have r := Row.new ((w.alloc (.cells (cs6 d.n 0) (el6 0))).alloc (.cells (cs6 d.n 1) (el6 1))) (cs6 d.n 1) (el6 1)
    rw [show (cs6 d.n 1).size = d.n by simp [cs6, size_madeCells]] at r
    exact r.fr ((Fr.refl (fun _ => False) _).alloc _) (by simp) (fun h => h)
  have R4 : Row ((((w.alloc (.cells (cs6 d.n 0) (el6 0))).alloc (.cells (cs6 d.n 1) (el6 1))).alloc (.cells (cs6 d.n 1) (el6 1))).alloc (.cells (cs6 d.n 4) (el6 4))) (((w.alloc (.cells (cs6 d.n 0) (el6 0))).alloc (.cells (cs6 d.n 1) (el6 1))).alloc (.cells (cs6 d.n 1) (el6 1))).heap.size (d.n * 3) (fun j => (cs6 d.n 4).getD j undef) := by
    have r := Row.new (((w.alloc (.cells (cs6 d.n 0) (el6 0))).alloc (.cells (cs6 d.n 1) (el6 1))).alloc (.cells (cs6 d.n 1) (el6 1))) (cs6 d.n 4) (el6 4)
    rw [show (cs6 d.n 4).size = d.n * 3 by simp [cs6, size_madeCells]] at r
    exact r
  exact ⟨_, _, _, _, _, _, _, m1 w, m2 _, m2 _, m4 _, ⟨by simp, by simp, by simp, hl⟩, B4, (fun j => (cs6 d.n 0).getD j undef), (fun j => (cs6 d.n 1).getD j undef), (fun j => (cs6 d.n 1).getD j undef), (fun j => (cs6 d.n 4).getD j undef),
    ⟨hM.below B4, R1, R2, R3, R4, by simp⟩⟩
end
end Go.Proofs.YbulkcwpuFmt
