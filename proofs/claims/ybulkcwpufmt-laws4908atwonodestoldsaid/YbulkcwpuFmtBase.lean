/-
  Rows of cells known by functions; a frame for memory of which only some blocks may turn. No Go text in sight.
-/
import Derived.Test.YbulkcwpuFmtRows
import Derived.WalkKit
import Derived.WalkSpells
import Derived.WalkLawsBesides
import Derived.Deep.Draws
namespace Go.Proofs.YbulkcwpuFmt
open Go.RowKit

theorem ret_int {k : IntKind} {a b : Int} (h : a = b) : Ending.returned (.int k a) = .returned (.int k b) := by rw [h]

/-- Of the blocks that were there only those in S may have turned. -/
structure Fr (S : Nat → Prop) (w w' : World) : Prop where
  os : w'.os = w.os
  tape : w'.tape = w.tape
  output : w'.output = w.output
  size : w.heap.size ≤ w'.heap.size
  block : ∀ k, k < w.heap.size → ¬ S k → w'.heap[k]? = w.heap[k]?

theorem Fr.refl (S : Nat → Prop) (w : World) : Fr S w w := ⟨rfl, rfl, rfl, Nat.le_refl _, fun _ _ _ => rfl⟩
theorem Fr.trans {S : Nat → Prop} {a b c : World} (h : Fr S a b) (k : Fr S b c) : Fr S a c :=
  ⟨k.os.trans h.os, k.tape.trans h.tape, k.output.trans h.output, Nat.le_trans h.size k.size, fun i hi hs => (k.block i (Nat.lt_of_lt_of_le hi h.size) hs).trans (h.block i hi hs)⟩
theorem Fr.mono {S S' : Nat → Prop} {w w' : World} (h : Fr S w w') (hs : ∀ k, k < w.heap.size → S k → S' k) : Fr S' w w' := ⟨h.os, h.tape, h.output, h.size, fun k hk hn => h.block k hk (fun hS => hn (hs k hk hS))⟩
theorem Fr.drewN {S : Nat → Prop} {w w' : World} {q : Nat} (h : Fr S w w') : Fr S w (w'.drewN q) := ⟨h.os, h.tape, h.output, h.size, h.block⟩
theorem Fr.drew {S : Nat → Prop} {w w' : World} (h : Fr S w w') : Fr S w w'.drew := ⟨h.os, h.tape, h.output, h.size, h.block⟩
theorem Fr.alloc {S : Nat → Prop} {w w' : World} (h : Fr S w w') (o : Obj) : Fr S w (w'.alloc o) :=
  h.trans ⟨rfl, rfl, rfl, by simp, fun k hk _ => Below.heap_alloc _ _ _ hk⟩
theorem Fr.setCell {S : Nat → Prop} {w w' : World} (h : Fr S w w') {p : Addr} (hp : S p.block ∨ w.heap.size ≤ p.block) (v : Value) : Fr S w (w'.setCell p v) := by
  refine ⟨h.os, h.tape, h.output, by have := h.size; simpa [World.setCell] using this, fun k hk hs => ?_⟩
  have hne : k ≠ p.block := by
    rcases hp with hp | hp
    · intro e; subst e; exact hs hp
    · omega
  rw [Below.heap_setCell _ _ _ _ hne]
  exact h.block k hk hs
theorem Fr.cell {S : Nat → Prop} {w w' : World} (h : Fr S w w') {p : Addr} (hp : p.block < w.heap.size) (hs : ¬ S p.block) : w'.cell? p = w.cell? p := World.cell?_of_block (w := w) (h.block p.block hp hs)
theorem Fr.frozen {S : Nat → Prop} {w w' : World} (h : Fr S w w') {p : Addr} (hp : p.block < w.heap.size) (hs : ¬ S p.block) : w'.frozen? p = w.frozen? p := World.frozen?_of_block (w := w) (h.block p.block hp hs)
theorem Fr.of_below {S : Nat → Prop} {w w' : World} (h : Below w.heap.size w w') : Fr S w w' := ⟨h.os, h.tape, h.output, h.size, fun k hk _ => h.block k hk⟩
theorem Fr.below {S : Nat → Prop} {w w' : World} {B : Nat} (h : Fr S w w') (hB : B ≤ w.heap.size) (hs : ∀ k, k < B → ¬ S k) : Below B w w' := ⟨h.os, h.tape, h.output, h.size, fun k hk => h.block k (by omega) (hs k hk)⟩

/-- Block S holds, from its head on, m cells, none of them frozen: cell j holds 'f j'. -/
structure Row (w : World) (S m : Nat) (f : Nat → Value) : Prop where
  cell : ∀ j, j < m → w.cell? ⟨S, j, none⟩ = some (f j)
  free : ∀ j, j < m → w.frozen? ⟨S, j, none⟩ = false

def upd (f : Nat → Value) (p : Nat) (v : Value) : Nat → Value := fun j => if j = p then v else f j
theorem upd_same (f : Nat → Value) (p : Nat) (v : Value) : upd f p v p = v := by simp [upd]
theorem upd_ne (f : Nat → Value) (p j : Nat) (v : Value) (h : j ≠ p) : upd f p v j = f j := by simp [upd, h]

theorem Row.set {w : World} {S m : Nat} {f : Nat → Value} (h : Row w S m f) {p : Nat} (hp : p < m) (v : Value) : Row (w.setCell ⟨S, p, none⟩ v) S m (upd f p v) := by
  refine ⟨fun j hj => ?_, fun j hj => (World.frozen?_setCell ..).trans (h.free j hj)⟩
  by_cases e : j = p
  · subst e; rw [upd_same]; exact World.cell?_setCell_same _ _ _ (h.cell j hj)
  · rw [upd_ne _ _ _ _ e, World.cell?_setCell_other _ _ _ _ (by intro h; cases h; exact e rfl)]; exact h.cell j hj

theorem Row.other {w : World} {S m : Nat} {f : Nat → Value} (h : Row w S m f) {a : Addr} (ha : a.block ≠ S) (v : Value) : Row (w.setCell a v) S m f :=
  ⟨fun j hj => by rw [World.cell?_setCell_other _ _ _ _ (by intro e; rw [e] at ha; exact ha rfl)]; exact h.cell j hj, fun j hj => (World.frozen?_setCell ..).trans (h.free j hj)⟩

theorem Row.fr {w w' : World} {S m : Nat} {f : Nat → Value} {T : Nat → Prop} (h : Row w S m f) (hf : Fr T w w') (hS : S < w.heap.size) (hT : ¬ T S) : Row w' S m f :=
  ⟨fun j hj => by rw [hf.cell (p := ⟨S, j, none⟩) hS hT]; exact h.cell j hj, fun j hj => by rw [hf.frozen (p := ⟨S, j, none⟩) hS hT]; exact h.free j hj⟩

theorem Row.below {w w' : World} {S m B : Nat} {f : Nat → Value} (h : Row w S m f) (hb : Below B w w') (hS : S < B) : Row w' S m f :=
  ⟨fun j hj => by rw [hb.cell (p := ⟨S, j, none⟩) hS]; exact h.cell j hj, fun j hj => by rw [hb.frozen (p := ⟨S, j, none⟩) hS]; exact h.free j hj⟩

theorem Row.drewN {w : World} {S m k : Nat} {f : Nat → Value} (h : Row w S m f) : Row (w.drewN k) S m f := ⟨h.cell, h.free⟩

/-- A new block of cells is such a row. -/
theorem Row.new (w : World) (cs : Array Value) (t : TypeId) : Row (w.alloc (.cells cs t)) w.heap.size cs.size (fun j => cs.getD j undef) := by
  refine ⟨fun j hj => ?_, fun j hj => ?_⟩
  · rw [World.cell?_alloc_at cs t w.heap.size j rfl]; simp [hj]
  · exact World.frozen?_alloc_at cs t w.heap.size j rfl

theorem Row.congr {w : World} {S m : Nat} {f g : Nat → Value} (h : Row w S m f) (e : ∀ j, j < m → f j = g j) : Row w S m g := ⟨fun j hj => by rw [← e j hj]; exact h.cell j hj, h.free⟩

/-! Sorting by insertion, as Go's library does it, over a function from places to numbers. -/
def swp (g : Nat → Int) (i j : Nat) : Nat → Int := fun k => if k = i then g j else if k = j then g i else g k
def insIn (c : Int → Int) : Nat → (Nat → Int) → (Nat → Int)
  | 0, g => g
  | j + 1, g => if c (g (j + 1)) < c (g j) then insIn c j (swp g (j + 1) j) else g
def insOut (c : Int → Int) : Nat → (Nat → Int)
  | 0 => fun k => (k : Int)
  | k + 1 => insIn c (k + 1) (insOut c k)

/-- All the first n numbers lie in 0 .. n-1. -/
def In (n : Nat) (g : Nat → Int) : Prop := ∀ k, k < n → 0 ≤ g k ∧ g k < n

theorem in_swp {n : Nat} {g : Nat → Int} (h : In n g) {i j : Nat} (hi : i < n) (hj : j < n) : In n (swp g i j) := by
  intro k hk
  unfold swp
  split
  · exact h j hj
  · split
    · exact h i hi
    · exact h k hk

theorem in_insIn {n : Nat} (c : Int → Int) : ∀ (j : Nat) (g : Nat → Int), In n g → j < n → In n (insIn c j g) := by
  intro j
  induction j with
  | zero => intro g h _; exact h
  | succ j ih =>
    intro g h hj
    rw [insIn]
    split
    · exact ih _ (in_swp h hj (by omega)) (by omega)
    · exact h

theorem in_insOut {n : Nat} (c : Int → Int) : ∀ k, k < n → In n (insOut c k) := by
  intro k
  induction k with
  | zero => intro _ i hi; simp only [insOut]; omega
  | succ k ih => intro hk; exact in_insIn c (k + 1) _ (ih (by omega)) hk
end Go.Proofs.YbulkcwpuFmt
