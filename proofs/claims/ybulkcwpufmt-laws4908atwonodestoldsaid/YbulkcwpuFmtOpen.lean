/-
  The two slices that come in, opened.
-/
import Derived.Test.YbulkcwpuFmtRows
import Derived.Test.YbulkcwpuFmtCards
import Derived.Test.YbulkcwpuFmtTie
import Derived.Test.YbulkcwpuFmtCopy
import Derived.ProofKit
import Derived.OpenShut
import Derived.ChangeOld
import Derived.Below
import Derived.Deep.Slices
import Derived.Stop.JoinedAt
import Derived.Stop.JoinedTold
import Derived.SevenToldRow
import Derived.SevenTiedAt
import Derived.LaidMore
import Derived.Lib.LaidTab
namespace Go.Proofs.YbulkcwpuFmt
open Go.ChangeShapes Go.WideShapes Go.ChangeAt Go.RowKit Go.Deep
open Go.Extern.Stop Go.Stop Go.Extern
set_option linter.unusedVariables false

theorem own : ownKnob Ybaf.prog.godebug = none := by kernel_rfl
theorem laidOut : laidOutB Ybaf.prog = true := by kernel_rfl

/-- A slice of integers that came in. -/
theorem ints_in {H : Type} {enc : TypeId × Value → H} {W : World} {base : Nat} {sp : Nat → Bool} {held : Bool} {fuel : Nat} {a : Option Addr} {n c : Nat} {x : DataW H × List MemPlace}
    (h : DataW.trod enc Ybaf.prog W base sp held fuel 22 [.slice a n c] = some x) :
    ∃ (b o : Nat) (z : Nat → Int), (a = none → n = 0) ∧ ∀ i, i < n → a = some ⟨b, o, none⟩ ∧ b < W.heap.size ∧ W.cell? ⟨b, o + i, none⟩ = some (.int .i64 (z i)) := by
  rcases open_slice1 Ybaf.underlying22 (by kernel_rfl) h with ⟨hcs, _⟩ | ⟨y, l, c', m, k, V, D, Pl, hcs, _, hl, _, hm, _, hc⟩
  · simp at hcs
    obtain ⟨rfl, rfl, rfl⟩ := hcs
    exact ⟨0, 0, fun _ => 0, fun _ => rfl, fun i hi => absurd hi (Nat.not_lt_zero _)⟩
  · simp at hcs
    obtain ⟨rfl, rfl, rfl⟩ := hcs
    have hnm : n ≤ m := by rw [hm]; split <;> omega
    obtain ⟨b, o, spot⟩ := y
    refine ⟨b, o, fun i => intOf (V i), fun h => (by cases h), fun i hi => ?_⟩
    obtain ⟨h1, h2⟩ := hc i (by omega)
    obtain ⟨z, hz, _⟩ := DataW.trod_int Ybaf.underlying3 h2
    have hs : spot = none := by simpa [Addr.add] using World.cell?_spot (hc 0 (by omega)).1
    subst hs
    rw [plain_add] at h1
    simp at hz
    rw [hz] at h1
    exact ⟨rfl, World.block_lt_of_cell? W _ h1, by show _ = some (Value.int .i64 (intOf (V i))); rw [h1, hz]; rfl⟩

theorem open_triples {H : Type} {enc : TypeId × Value → H} {P : Program} {w : World} {base : Nat} {spare : Nat → Bool} {held : Bool} {t e : TypeId} {f0 f1 f2 : Field} {fuel : Nat} {cs : List Value} {x : DataW H × List MemPlace}
    (ht : P.underlying t = some (.slice e)) (he : P.underlying e = some (.struct #[f0, f1, f2])) (ce : P.cellsOf e = 3) (o0 : f0.offset = 0) (o1 : f1.offset = 1) (o2 : f2.offset = 2)
    (c0 : P.cellsOf f0.type = 1) (c1 : P.cellsOf f1.type = 1) (c2 : P.cellsOf f2.type = 1) (h : DataW.trod enc P w base spare held fuel t cs = some x) :
    cs = [.slice none 0 0] ∨ ∃ (a : Addr) (len cap : Nat), cs = [.slice (some a) len cap] ∧ ∀ i, i < len → ∃ v0 v1 v2 y0 y1 y2 k, w.cell? (a.add (i * 3)) = some v0 ∧ w.cell? (a.add (i * 3 + 1)) = some v1 ∧ w.cell? (a.add (i * 3 + 2)) = some v2 ∧
      DataW.trod enc P w base spare held k f0.type [v0] = some y0 ∧ DataW.trod enc P w base spare held k f1.type [v1] = some y1 ∧ DataW.trod enc P w base spare held k f2.type [v2] = some y2 := by
  rcases open_slice ht h with ⟨h0, _⟩ | ⟨a, len, cap, m, n, D, Pl, rfl, hb, hl, hm, hmm, rfl, hx⟩
  · exact Or.inl h0
  right
  have hlm : len ≤ m := by rw [hmm]; split <;> omega
  refine ⟨a, len, cap, rfl, fun i hi => ?_⟩
  obtain ⟨cs', h1, h2⟩ := hx i (by omega)
  rw [ce] at h1
  obtain ⟨_, hlen, hcell⟩ := World.cells?_some h1
  obtain ⟨xs, k, hk, hxy, _, hxl, hf⟩ := DataW.trod_struct he h2
  match xs, hxl, cs', hlen with
  | [y0, y1, y2], _, [v0, v1, v2], _ =>
    have g0 := hf 0 f0 rfl
    have g1 := hf 1 f1 rfl
    have g2 := hf 2 f2 rfl
    simp [o0, o1, o2, c0, c1, c2] at g0 g1 g2
    have e0 := hcell 0 (by omega)
    have e1 := hcell 1 (by omega)
    have e2 := hcell 2 (by omega)
    rw [add_add] at e0 e1 e2
    exact ⟨v0, v1, v2, y0, y1, y2, k, by simpa using e0, by simpa using e1, by simpa using e2, g0, g1, g2⟩

/-- A slice of structs of three integers that came in. -/
theorem claims_in {H : Type} {enc : TypeId × Value → H} {W : World} {base : Nat} {sp : Nat → Bool} {held : Bool} {fuel : Nat} {a : Option Addr} {n c : Nat} {x : DataW H × List MemPlace}
    (h : DataW.trod enc Ybaf.prog W base sp held fuel 23 [.slice a n c] = some x) :
    ∃ (b o : Nat) (z : Nat → Nat → Int), (a = none → n = 0) ∧ ∀ i, i < n → a = some ⟨b, o, none⟩ ∧ b < W.heap.size ∧ ∀ k, k < 3 → W.cell? ⟨b, o + i * 3 + k, none⟩ = some (.int .i64 (z i k)) := by
  rcases open_triples Ybaf.underlying23 Ybaf.underlying36 (by kernel_rfl) rfl rfl rfl (by kernel_rfl) (by kernel_rfl) (by kernel_rfl) h with hcs | ⟨y, l, c', hcs, hc⟩
  · simp at hcs
    obtain ⟨rfl, rfl, rfl⟩ := hcs
    exact ⟨0, 0, fun _ _ => 0, fun _ => rfl, fun i hi => absurd hi (Nat.not_lt_zero _)⟩
  · simp at hcs
    obtain ⟨rfl, rfl, rfl⟩ := hcs
    have key : ∀ i, i < n → ∃ q : Int × Int × Int, W.cell? (y.add (i * 3)) = some (.int .i64 q.1) ∧ W.cell? (y.add (i * 3 + 1)) = some (.int .i64 q.2.1) ∧ W.cell? (y.add (i * 3 + 2)) = some (.int .i64 q.2.2) := by
      intro i hi
      obtain ⟨v0, v1, v2, y0, y1, y2, k, d0, d1, d2, t0, t1, t2⟩ := hc i hi
      obtain ⟨z0, e0, _⟩ := DataW.trod_int Ybaf.underlying3 t0
      obtain ⟨z1, e1, _⟩ := DataW.trod_int Ybaf.underlying2 t1
      obtain ⟨z2, e2, _⟩ := DataW.trod_int Ybaf.underlying3 t2
      simp at e0 e1 e2
      exact ⟨(z0, z1, z2), by rw [d0, e0], by rw [d1, e1], by rw [d2, e2]⟩
    obtain ⟨Q, hQ⟩ := choose_lt (α := Int × Int × Int) key
    obtain ⟨b, o, spot⟩ := y
    refine ⟨b, o, fun i k => if k = 0 then (Q i).1 else if k = 1 then (Q i).2.1 else (Q i).2.2, fun h => (by cases h), fun i hi => ?_⟩
    have hs : spot = none := by simpa [Addr.add] using World.cell?_spot (hQ 0 (by omega)).1
    subst hs
    obtain ⟨h1, h2, h3⟩ := hQ i hi
    rw [plain_add] at h1 h2 h3
    refine ⟨rfl, World.block_lt_of_cell? W _ h1, fun k hk => ?_⟩
    have : k = 0 ∨ k = 1 ∨ k = 2 := by omega
    rcases this with rfl | rfl | rfl
    · exact h1
    · exact h2
    · exact h3
end Go.Proofs.YbulkcwpuFmt
