/-
  A row of cells of the call's own, known by a function from places to values; and the end of a descending chain. No Go text in sight.
-/
import Derived.Test.YbulkcwpuRows
import Derived.WalkKit
import Derived.WalkSpells
import Derived.Deep.Draws
namespace Go.Proofs.Ybulkcwpu
open Go.RowKit

/-- Block S holds, from its head on, m cells, none of them frozen: cell j holds 'f j'. -/
structure Row (w : World) (S m : Nat) (f : Nat → Value) : Prop where
  cell : ∀ j, j < m → w.cell? ⟨S, j, none⟩ = some (f j)
  free : ∀ j, j < m → w.frozen? ⟨S, j, none⟩ = false

def upd (f : Nat → Value) (p : Nat) (v : Value) : Nat → Value := fun j => if j = p then v else f j
theorem upd_same (f : Nat → Value) (p : Nat) (v : Value) : upd f p v p = v := by simp [upd]
theorem upd_ne (f : Nat → Value) (p j : Nat) (v : Value) (h : j ≠ p) : upd f p v j = f j := by simp [upd, h]

theorem Row.set {w : World} {S m : Nat} {f : Nat → Value} (h : Row w S m f) {p : Nat} (hp : p < m) (v : Value) : Row (w.setCell ⟨S, p, none⟩ v) S m (upd f p v) := by
  refine ⟨fun j hj => ?_, fun j hj => (World.frozen?_setCell ..).trans (h.free j hj)⟩
  by_cases e : j = p
  · subst e; rw [upd_same]; exact World.cell?_setCell_same _ _ _ (h.cell j hj)
  · rw [upd_ne _ _ _ _ e, World.cell?_setCell_other _ _ _ _ (by intro h; cases h; exact e rfl)]; exact h.cell j hj

theorem Row.other {w : World} {S m : Nat} {f : Nat → Value} (h : Row w S m f) {a : Addr} (ha : a.block ≠ S) (v : Value) : Row (w.setCell a v) S m f :=
  ⟨fun j hj => by rw [World.cell?_setCell_other _ _ _ _ (by intro e; rw [e] at ha; exact ha rfl)]; exact h.cell j hj, fun j hj => by rw [World.frozen?_setCell]; exact h.free j hj⟩

theorem Row.below {w w' : World} {S m B : Nat} {f : Nat → Value} (h : Row w S m f) (hb : Below B w w') (hS : S < B) : Row w' S m f :=
  ⟨fun j hj => by rw [hb.cell (p := ⟨S, j, none⟩) hS]; exact h.cell j hj, fun j hj => by rw [hb.frozen (p := ⟨S, j, none⟩) hS]; exact h.free j hj⟩

theorem Row.drewN {w : World} {S m k : Nat} {f : Nat → Value} (h : Row w S m f) : Row (w.drewN k) S m f := ⟨h.cell, h.free⟩

/-- A new block of cells is such a row. -/
theorem Row.new (w : World) (cs : Array Value) (t : TypeId) : Row (w.alloc (.cells cs t)) w.heap.size cs.size (fun j => cs.getD j undef) := by
  refine ⟨fun j hj => ?_, fun j hj => ?_⟩
  · rw [World.cell?_alloc_at cs t w.heap.size j rfl]; simp [hj]
  · exact World.frozen?_alloc_at cs t w.heap.size j rfl

/-! The end of a descending chain of links. -/
def lowF (lo : Nat → Int) : Nat → Int → Int
  | 0, t => t
  | f + 1, t => if 0 ≤ t ∧ 0 ≤ lo t.toNat then lowF lo f (lo t.toNat) else t
def lowG (lo : Nat → Int) (t : Int) : Int := lowF lo (t.toNat + 1) t

theorem lowF_fuel (lo : Nat → Int) (n : Nat) (hb : ∀ i, i < n → lo i < i) : ∀ (f : Nat) (t : Int), t < n → t.toNat < f → lowF lo f t = lowG lo t := by
  intro f
  induction f using Nat.strongRecOn with
  | ind f ih =>
    intro t ht hf
    match f, ih, hf with
    | f + 1, ih, hf =>
      unfold lowG
      rw [lowF, lowF]
      split
      · rename_i h
        have hlt := hb t.toNat (by omega)
        rw [ih f (by omega) (lo t.toNat) (by omega) (by omega)]
        exact (ih t.toNat (by omega) (lo t.toNat) (by omega) (by omega)).symm
      · rfl

theorem lowG_eq (lo : Nat → Int) (n : Nat) (hb : ∀ i, i < n → lo i < i) (t : Int) (ht : t < n) : lowG lo t = if 0 ≤ t ∧ 0 ≤ lo t.toNat then lowG lo (lo t.toNat) else t := by
  show lowF lo (t.toNat + 1) t = _
  rw [lowF]
  split
  · rename_i h
    have hlt := hb t.toNat (by omega)
    exact lowF_fuel lo n hb _ _ (by omega) (by omega)
  · rfl
end Go.Proofs.Ybulkcwpu
