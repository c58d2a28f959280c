/-
  The memory of a node while 'NewChangingNode' lays it out. No Go text in sight.
-/
import Derived.Test.YbulkcwpuFmtLit
namespace Go.Proofs.YbulkcwpuFmt
open Go.RowKit Go.Lib
set_option linter.unusedVariables false

def st0 (d : Nd) : St :=
  { vals := fun _ => 0, ctrs := fun _ => -1, vch := fun _ => -1, lval := fun _ => 0, lctr := fun _ => -1, ini := fun _ _ => false, ecg := fun _ _ => false, cfm := fun _ _ => false, hrd := fun _ _ => 0, ech := fun _ _ => 0, few := fun _ => nilS, stale := false, out := 0 }

structure Raw (d : Nd) (w : World) (fK fU : Nat → Int) (fL fT : Nat → Value) : Prop where
  C : Row w d.C 16 (cC d (st0 d))
  V : Row w d.V d.n fun _ => .int .i64 0
  K : Row w d.K d.n fun j => .int .i64 (fK j)
  U : Row w d.U d.n fun j => .int .i64 (fU j)
  A : Row w d.A (2 * d.n) fun _ => nilS
  L : Row w d.L (3 * d.n) fL
  T : Row w d.T (10 * d.n) fT
  H : Row w d.H (2 * d.n) fun _ => .int .u64 0
  lt : d.C < w.heap.size ∧ d.V < w.heap.size ∧ d.K < w.heap.size ∧ d.U < w.heap.size ∧ d.A < w.heap.size ∧ d.L < w.heap.size ∧ d.T < w.heap.size ∧ d.H < w.heap.size

section
variable {d : Nd} {w : World} {fK fU : Nat → Int} {fL fT : Nat → Value} {base : Nat}
theorem rlt (h : Raw d w fK fU fL fT) (a : Addr) (v : Value) : d.C < (w.setCell a v).heap.size ∧ d.V < (w.setCell a v).heap.size ∧ d.K < (w.setCell a v).heap.size ∧ d.U < (w.setCell a v).heap.size ∧ d.A < (w.setCell a v).heap.size ∧ d.L < (w.setCell a v).heap.size ∧ d.T < (w.setCell a v).heap.size ∧ d.H < (w.setCell a v).heap.size := by
  have := h.lt
  simpa [World.setCell] using this
theorem Raw.drewN (h : Raw d w fK fU fL fT) (q : Nat) : Raw d (w.drewN q) fK fU fL fT :=
  ⟨h.C.drewN, h.V.drewN, h.K.drewN, h.U.drewN, h.A.drewN, h.L.drewN, h.T.drewN, h.H.drewN, h.lt⟩
theorem Raw.setK (h : Raw d w fK fU fL fT) (ha : Apart d base) {j : Nat} (hj : j < d.n) (x : Int) : Raw d (w.setCell ⟨d.K, j, none⟩ (.int .i64 x)) (up fK j x) fU fL fT :=
  ⟨h.C.other ha.CK.symm _, h.V.other ha.VK.symm _, h.K.setTo hj (by simp [up]) (fun i hi hne => by simp [up, hne]), h.U.other ha.KU _, h.A.other ha.KA _, h.L.other ha.KL _, h.T.other ha.KT _, h.H.other ha.KH _, rlt h _ _⟩
theorem Raw.setU (h : Raw d w fK fU fL fT) (ha : Apart d base) {j : Nat} (hj : j < d.n) (x : Int) : Raw d (w.setCell ⟨d.U, j, none⟩ (.int .i64 x)) fK (up fU j x) fL fT :=
  ⟨h.C.other ha.CU.symm _, h.V.other ha.VU.symm _, h.K.other ha.KU.symm _, h.U.setTo hj (by simp [up]) (fun i hi hne => by simp [up, hne]), h.A.other ha.UA _, h.L.other ha.UL _, h.T.other ha.UT _, h.H.other ha.UH _, rlt h _ _⟩
theorem Raw.setL (h : Raw d w fK fU fL fT) (ha : Apart d base) {p : Nat} (hp : p < 3 * d.n) (x : Value) : Raw d (w.setCell ⟨d.L, p, none⟩ x) fK fU (upd fL p x) fT :=
  ⟨h.C.other ha.CL.symm _, h.V.other ha.VL.symm _, h.K.other ha.KL.symm _, h.U.other ha.UL.symm _, h.A.other ha.AL.symm _, h.L.set hp x, h.T.other ha.LT _, h.H.other ha.LH _, rlt h _ _⟩
theorem Raw.setT (h : Raw d w fK fU fL fT) (ha : Apart d base) {p : Nat} (hp : p < 10 * d.n) (x : Value) : Raw d (w.setCell ⟨d.T, p, none⟩ x) fK fU fL (upd fT p x) :=
  ⟨h.C.other ha.CT.symm _, h.V.other ha.VT.symm _, h.K.other ha.KT.symm _, h.U.other ha.UT.symm _, h.A.other ha.AT.symm _, h.L.other ha.LT.symm _, h.T.set hp x, h.H.other ha.TH _, rlt h _ _⟩

/-- How far the layout has come: the first m nodes are laid out. -/
structure Done (d : Nd) (m : Nat) (fK fU : Nat → Int) (fL fT : Nat → Value) : Prop where
  K : ∀ i, i < m → fK i = -1
  U : ∀ i, i < m → fU i = -1
  L : ∀ i, i < 3 * m → fL i = cL (st0 d) i
  T : ∀ i, i < 10 * m → fT i = cT d (st0 d) i
  T' : ∀ i, i % 5 ≠ 1 → fT i = cT d (st0 d) i

theorem Raw.mem (h : Raw d w fK fU fL fT) (hd : Done d d.n fK fU fL fT) : Mem d w (st0 d) :=
  ⟨h.C, h.V, h.K.congr (fun j hj => by rw [hd.K j hj]; rfl), h.U.congr (fun j hj => by rw [hd.U j hj]; rfl),
    h.A.congr (fun j hj => by unfold cA st0; split <;> rfl), h.L.congr (fun j hj => hd.L j hj), h.T.congr (fun j hj => hd.T j hj), h.H, h.lt⟩

theorem Done.step {m : Nat} (hd : Done d m fK fU fL fT) :
    Done d (m + 1) (up fK m (-1)) (up fU m (-1)) (upd (upd (upd fL (m * 3) (.int .i64 m)) (m * 3 + 1) (.int .i64 0)) (m * 3 + 2) (.int .i64 (-1)))
      (upd (upd fT (m * 10 + 1) (.slice (some ⟨d.H, m * 2, none⟩) 1 1)) (m * 10 + 5 + 1) (.slice (some ⟨d.H, m * 2 + 1, none⟩) 1 1)) := by
  refine ⟨fun i hi => ?_, fun i hi => ?_, fun i hi => ?_, fun i hi => ?_, fun i hi => ?_⟩
  · unfold up; split
    · rfl
    · exact hd.K i (by omega)
  · unfold up; split
    · rfl
    · exact hd.U i (by omega)
  · unfold upd
    split
    · rename_i e; subst e; unfold cL; rw [if_neg (by omega), if_neg (by omega)]; rfl
    · split
      · rename_i e; subst e; unfold cL; rw [if_neg (by omega), if_pos (by omega)]; rfl
      · split
        · rename_i e; subst e; unfold cL; rw [if_pos (by omega), Nat.mul_div_cancel m (by omega : 0 < 3)]
        · exact hd.L i (by omega)
  · unfold upd
    split
    · rename_i e; subst e; unfold cT; rw [show (m * 10 + 5 + 1) / 10 = m by omega, show (m * 10 + 5 + 1) % 10 / 5 = 1 by omega, show (m * 10 + 5 + 1) % 5 = 1 by omega]; rfl
    · split
      · rename_i e; subst e; unfold cT; rw [show (m * 10 + 1) / 10 = m by omega, show (m * 10 + 1) % 10 / 5 = 0 by omega, show (m * 10 + 1) % 5 = 1 by omega]; rfl
      · by_cases h5 : i % 5 = 1
        · exact hd.T i (by omega)
        · exact hd.T' i h5
  · unfold upd
    rw [if_neg (by omega), if_neg (by omega)]
    exact hd.T' i hi
end

theorem row_of_block (w : World) (S : Nat) (cs : Array Value) (t : TypeId) (h : w.heap[S]? = some (.cells cs t)) : Row w S cs.size (fun j => cs.getD j undef) := by
  refine ⟨fun j hj => ?_, fun j hj => ?_⟩
  · simp [World.cell?, h, hj]
  · simp [World.frozen?, h]

theorem made_get (z : Array Value) (n j : Nat) (hj : j < n) : (madeCells z n).getD j undef = z[j % z.size]! := by
  simp [madeCells, hj]
end Go.Proofs.YbulkcwpuFmt
