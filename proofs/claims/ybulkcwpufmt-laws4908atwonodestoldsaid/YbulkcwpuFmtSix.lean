/-
  A drawn region that holds six makes whose order Go leaves open: one law for all 720 orders.
-/
import Derived.Test.YbulkcwpuFmtOut
namespace Go.Proofs.YbulkcwpuFmt
open Go.RowKit Go.Lib
set_option linter.unusedVariables false

def set6 {α : Type} (b : Fin 6 → α) (k : Fin 6) (x : α) : Fin 6 → α := fun j => if j = k then x else b j
def lst6 (b : Fin 6 → Bool) : Array Bool :=
  #[true, true, true, true, true, true, b 0, true, b 1, true, b 2, true, b 3, true, b 4, true, b 5, false, false, false]
def cnt6 (b : Fin 6 → Bool) : Nat := (!b 0).toNat + (!b 1).toNat + (!b 2).toNat + (!b 3).toNat + (!b 4).toNat + (!b 5).toNat
def rdy6 (b : Fin 6 → Bool) : List Nat :=
  (if b 0 then [] else [6]) ++ (if b 1 then [] else [8]) ++ (if b 2 then [] else [10]) ++ (if b 3 then [] else [12]) ++ (if b 4 then [] else [14]) ++ (if b 5 then [] else [16])

theorem fin6 {p : Fin 6 → Prop} (h0 : p 0) (h1 : p 1) (h2 : p 2) (h3 : p 3) (h4 : p 4) (h5 : p 5) : ∀ k, p k
  | 0 => h0 | 1 => h1 | 2 => h2 | 3 => h3 | 4 => h4 | 5 => h5

theorem cnt6_set (b : Fin 6 → Bool) : ∀ k, b k = false → cnt6 (set6 b k true) + 1 = cnt6 b :=
  fin6 (fun h => by simp [cnt6, set6, h]; omega) (fun h => by simp [cnt6, set6, h]; omega) (fun h => by simp [cnt6, set6, h]; omega)
    (fun h => by simp [cnt6, set6, h]; omega) (fun h => by simp [cnt6, set6, h]; omega) (fun h => by simp [cnt6, set6, h])
theorem lst6_set (b : Fin 6 → Bool) : ∀ k : Fin 6, (lst6 b).setIfInBounds (6 + 2 * k.val) true = lst6 (set6 b k true) :=
  fin6 rfl rfl rfl rfl rfl rfl
theorem mem_rdy6 (b : Fin 6 → Bool) (i : Nat) (h : i ∈ rdy6 b) : ∃ k : Fin 6, i = 6 + 2 * k.val ∧ b k = false := by
  simp only [rdy6, List.mem_append] at h
  rcases h with ((((h | h) | h) | h) | h) | h
  · refine ⟨0, ?_⟩; cases hb : b 0 <;> simp [hb] at h; exact ⟨h, rfl⟩
  · refine ⟨1, ?_⟩; cases hb : b 1 <;> simp [hb] at h; exact ⟨h, rfl⟩
  · refine ⟨2, ?_⟩; cases hb : b 2 <;> simp [hb] at h; exact ⟨h, rfl⟩
  · refine ⟨3, ?_⟩; cases hb : b 3 <;> simp [hb] at h; exact ⟨h, rfl⟩
  · refine ⟨4, ?_⟩; cases hb : b 4 <;> simp [hb] at h; exact ⟨h, rfl⟩
  · refine ⟨5, ?_⟩; cases hb : b 5 <;> simp [hb] at h; exact ⟨h, rfl⟩
theorem rdy6_ne (b : Fin 6 → Bool) (m : Nat) (h : cnt6 b = m + 1) : rdy6 b ≠ [] := by
  intro e
  simp only [rdy6, List.append_eq_nil_iff] at e
  obtain ⟨⟨⟨⟨⟨e0, e1⟩, e2⟩, e3⟩, e4⟩, e5⟩ := e
  have f : ∀ (x : Bool) (n : Nat), (if x then ([] : List Nat) else [n]) = [] → x = true := by intro x n h; cases x <;> simp_all
  simp [cnt6, f _ _ e0, f _ _ e1, f _ _ e2, f _ _ e3, f _ _ e4, f _ _ e5] at h
theorem cnt6_zero (b : Fin 6 → Bool) (h : cnt6 b = 0) : b = fun _ => true := by
  have f : ∀ x : Bool, (!x).toNat = 0 → x = true := by intro x; cases x <;> simp
  simp only [cnt6] at h
  funext k
  revert k
  exact fin6 (f _ (by omega)) (f _ (by omega)) (f _ (by omega)) (f _ (by omega)) (f _ (by omega)) (f _ (by omega))

/-- What is so once the makes of 'b' are done: make k gave block 'B k'. -/
structure Inv6 (w0 : World) (cs : Fin 6 → Array Value) (el : Fin 6 → TypeId) (b : Fin 6 → Bool) (B : Fin 6 → Nat) (w : World) : Prop where
  below : Below w0.heap.size w0 w
  made : ∀ k, b k = true → w0.heap.size ≤ B k ∧ w.heap[B k]? = some (.cells (cs k) (el k))
  apart : ∀ j k, j ≠ k → b j = true → b k = true → B j ≠ B k

def slc (n B : Nat) : Value := .slice (some ⟨B, 0, none⟩) n n
def val6 (n : Nat) (b : Fin 6 → Bool) (B : Fin 6 → Nat) : Fin 6 → Value := fun k => if b k then slc n (B k) else undef

theorem val6_set (n : Nat) (b : Fin 6 → Bool) (B : Fin 6 → Nat) (k : Fin 6) (x : Nat) : set6 (val6 n b B) k (slc n x) = val6 n (set6 b k true) (set6 B k x) := by
  funext j
  by_cases h : j = k
  · subst h; simp [set6, val6]
  · simp [set6, val6, h]

theorem Inv6.step {w0 w : World} {cs : Fin 6 → Array Value} {el : Fin 6 → TypeId} {b : Fin 6 → Bool} {B : Fin 6 → Nat} (h : Inv6 w0 cs el b B w) (k : Fin 6) :
    Inv6 w0 cs el (set6 b k true) (set6 B k w.heap.size) (w.alloc (.cells (cs k) (el k))) := by
  have lt : ∀ j, b j = true → B j < w.heap.size := fun j hj => by
    have := (h.made j hj).2
    rcases Nat.lt_or_ge (B j) w.heap.size with hl | hl
    · exact hl
    · simp [Array.getElem?_eq_none hl] at this
  refine ⟨h.below.alloc h.below.size _, fun j hj => ?_, fun i j hij hi hj => ?_⟩
  · by_cases e : j = k
    · subst e
      simp only [set6, if_true]
      exact ⟨h.below.size, by show (w.heap.push _)[w.heap.size]? = _; exact Array.getElem?_push_size⟩
    · simp only [set6, if_neg e] at hj ⊢
      exact ⟨(h.made j hj).1, (Below.heap_alloc _ _ _ (lt j hj)).trans (h.made j hj).2⟩
  · by_cases e : i = k
    · subst e
      have e' : j ≠ i := fun e => hij e.symm
      simp only [set6, if_true, if_neg e'] at hj ⊢
      have := lt j hj; omega
    · by_cases e' : j = k
      · subst e'
        simp only [set6, if_true, if_neg e] at hi ⊢
        have := lt i hi; omega
      · simp only [set6, if_neg e, if_neg e'] at hi hj ⊢
        exact h.apart i j hij hi hj

theorem step_make {P : Program} {ops : Array Oper} {Q : Exit → Act → World → Prop} {i d t : Nat} {T ty : TypeId} {pos : String} {aft : Array Edge} {K : Act → World → Prop} {a : Act} {w w' : World} {x v : Value}
    (ho : ops[i]? = some ⟨some d, .makeSlice T (.tmp t) (.tmp t), ty, pos, aft, none⟩) (ht : a.eval (.tmp t) = x)
    (hrun : (Instr.makeSlice T x x).run P w = .ok v w') (hk : K (a.put (some d) v) w') : wpOp P ops Q i K a w := by
  unfold wpOp
  simp only [ho]
  rw [if_pos (by rfl)]
  refine .inl ?_
  unfold Oper.wp
  have : (execOp a.eval ⟨some d, .makeSlice T (.tmp t) (.tmp t), ty, pos, aft, none⟩).run P w = .ok (.value v) w' := by
    simp [execOp, ht, hrun]
  rw [this]
  exact hk

theorem six {P : Program} {ops : Array Oper} {Q : Exit → Act → World → Prop} (w0 : World) (n : Nat) (T el : Fin 6 → TypeId) (cs : Fin 6 → Array Value) (act : (Fin 6 → Value) → Act)
    (hops : ∀ k : Fin 6, ∃ ty pos aft, ops[6 + 2 * k.val]? = some ⟨some (47 + 2 * k.val), .makeSlice (T k) (.tmp (46 + 2 * k.val)) (.tmp (46 + 2 * k.val)), ty, pos, aft, none⟩)
    (hrd : ∀ b m, cnt6 b = m + 1 → Region.ready .any ops (lst6 b) = rdy6 b)
    (hev : ∀ v (k : Fin 6), (act v).eval (.tmp (46 + 2 * k.val)) = .int .i64 n)
    (hput : ∀ v (k : Fin 6) x, (act v).put (some (47 + 2 * k.val)) x = act (set6 v k x))
    (hrun : ∀ (k : Fin 6) w, (Instr.makeSlice (T k) (.int .i64 n) (.int .i64 n)).run P w = .ok (slc n w.heap.size) (w.alloc (.cells (cs k) (el k))))
    (hfin : ∀ B w, Inv6 w0 cs el (fun _ => true) B w → wpAny P .any ops Q 3 (lst6 fun _ => true) (act fun k => slc n (B k)) w) :
    ∀ m b B w, cnt6 b = m → Inv6 w0 cs el b B w → wpAny P .any ops Q (m + 3) (lst6 b) (act (val6 n b B)) w := by
  intro m
  induction m with
  | zero =>
    intro b B w hc hI
    have hb := cnt6_zero b hc
    subst hb
    exact hfin B w hI
  | succ m ih =>
    intro b B w hc hI
    refine wpAny_all (fuel := m + 3) (hrd b m hc) (rdy6_ne b m hc) fun i hi => ?_
    obtain ⟨k, rfl, hk⟩ := mem_rdy6 b i hi
    obtain ⟨ty, pos, aft, ho⟩ := hops k
    refine step_make ho (hev _ k) (hrun k w) ?_
    rw [hput, lst6_set, val6_set]
    exact ih _ _ _ (by have := cnt6_set b k hk; omega) (hI.step k)
end Go.Proofs.YbulkcwpuFmt
