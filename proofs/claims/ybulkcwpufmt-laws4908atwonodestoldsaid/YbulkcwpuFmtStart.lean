import Derived.Test.YbulkcwpuFmtRaw
namespace Go.Proofs.YbulkcwpuFmt
open Go.RowKit Go.Lib
set_option linter.unusedVariables false

def ndOf (w1 : World) (B : Fin 6 → Nat) (n s f : Nat) (inp : Int) : Nd := ⟨w1.heap.size, B 0, B 1, B 2, B 3, B 4, B 5, w1.heap.size + 1, n, s, f, inp⟩
def cellsC (B : Fin 6 → Nat) (n s f : Nat) (inp : Int) : Array Value := #[.int .i64 s, .int .i64 n, .int .i64 f, .int .i64 inp, .int .i64 inp, .int .i64 0, .slice (some ⟨B 0, 0, none⟩) n n, .slice (some ⟨B 1, 0, none⟩) n n, .slice (some ⟨B 2, 0, none⟩) n n, .bool false, .slice (some ⟨B 3, 0, none⟩) n n, .slice (some ⟨B 4, 0, none⟩) n n, .slice (some ⟨B 5, 0, none⟩) n n, .slice none 0 0, .bool false, .int .i64 0]
def fT0 (d : Nd) (i : Nat) : Value := if i % 5 = 1 then nilS else cT d (st0 d) i

theorem one_mod (x : Value) (j : Nat) : (#[x] : Array Value)[j % (#[x] : Array Value).size]! = x := by
  have : j % (#[x] : Array Value).size = 0 := Nat.mod_one j
  rw [this]; rfl

theorem zc10_get (d : Nd) (j : Nat) : zc10[j % zc10.size]! = fT0 d j := by
  have hz : zc10.size = 10 := rfl
  rw [hz]
  have h10 : j % 10 < 10 := Nat.mod_lt _ (by omega)
  have e5 : j % 5 = j % 10 % 5 := by omega
  unfold fT0 cT
  rw [e5]
  generalize j / 10 = q
  generalize j % 10 = m at *
  clear e5
  match m, h10 with
  | 0, _ => rfl
  | 1, _ => rfl
  | 2, _ => rfl
  | 3, _ => rfl
  | 4, _ => rfl
  | 5, _ => rfl
  | 6, _ => rfl
  | 7, _ => rfl
  | 8, _ => rfl
  | 9, _ => rfl
  | m + 10, h => omega

theorem start_done (d : Nd) : Done d 0 (fun _ => 0) (fun _ => 0) (fun _ => .int .i64 0) (fT0 d) :=
  ⟨fun i h => absurd h (Nat.not_lt_zero _), fun i h => absurd h (Nat.not_lt_zero _), fun i h => by omega, fun i h => by omega, fun i h => by unfold fT0; rw [if_neg h]⟩

theorem start_apart (n s f : Nat) (inp : Int) (w w1 : World) (B : Fin 6 → Nat) (hI : Inv6 w (cs6 n) el6 (fun _ => true) B w1) (hn : n ≤ 6) (hn1 : 1 ≤ n) (hf : f < n) (hs : s < n) (hi : inp = 0 ∨ inp = 1) :
    Apart (ndOf w1 B n s f inp) w.heap.size := by
  have lt : ∀ k, B k < w1.heap.size := fun k => by
    have := (hI.made k rfl).2
    rcases Nat.lt_or_ge (B k) w1.heap.size with hl | hl
    · exact hl
    · simp [Array.getElem?_eq_none hl] at this
  have ge : ∀ k, w.heap.size ≤ B k := fun k => (hI.made k rfl).1
  have ne : ∀ j k, j ≠ k → B j ≠ B k := fun j k h => hI.apart j k h rfl rfl
  have hb := hI.below.size
  have l0 := lt 0; have l1 := lt 1; have l2 := lt 2; have l3 := lt 3; have l4 := lt 4; have l5 := lt 5
  have g0 := ge 0; have g1 := ge 1; have g2 := ge 2; have g3 := ge 3; have g4 := ge 4; have g5 := ge 5
  constructor <;> simp only [ndOf] <;> first | omega | (exact ne _ _ (by decide)) | assumption

theorem start_raw (n s f : Nat) (inp : Int) (w w1 : World) (B : Fin 6 → Nat) (hI : Inv6 w (cs6 n) el6 (fun _ => true) B w1) :
    Raw (ndOf w1 B n s f inp) ((w1.alloc (.cells (cellsC B n s f inp) 48)).alloc (.cells (madeCells #[.int .u64 0] (2 * n * 1)) 82)) (fun _ => 0) (fun _ => 0) (fun _ => .int .i64 0) (fT0 (ndOf w1 B n s f inp)) := by
  have lt : ∀ k, B k < w1.heap.size := fun k => by
    have := (hI.made k rfl).2
    rcases Nat.lt_or_ge (B k) w1.heap.size with hl | hl
    · exact hl
    · simp [Array.getElem?_eq_none hl] at this
  have l0 := lt 0; have l1 := lt 1; have l2 := lt 2; have l3 := lt 3; have l4 := lt 4; have l5 := lt 5
  obtain ⟨w3, hw3⟩ : ∃ w3, w3 = (w1.alloc (.cells (cellsC B n s f inp) 48)).alloc (.cells (madeCells #[.int .u64 0] (2 * n * 1)) 82) := ⟨_, rfl⟩
  have fr : Fr (fun _ => False) w1 w3 := by rw [hw3]; exact ((Fr.refl _ w1).alloc _).alloc _
  have hz3 : w3.heap.size = w1.heap.size + 2 := by rw [hw3]; simp
  have row : ∀ k, Row w3 (B k) (cs6 n k).size (fun j => (cs6 n k).getD j undef) := fun k => (row_of_block w1 (B k) _ _ (hI.made k rfl).2).fr fr (lt k) (fun h => h)
  have rC : Row w3 w1.heap.size 16 (fun j => (cellsC B n s f inp).getD j undef) := by
    have r := Row.new w1 (cellsC B n s f inp) 48
    rw [hw3]
    exact r.fr ((Fr.refl (fun _ => False) _).alloc _) (by simp) (fun h => h)
  have rH : Row w3 (w1.heap.size + 1) (2 * n * 1) (fun j => (madeCells #[.int .u64 0] (2 * n * 1)).getD j undef) := by
    have r := Row.new (w1.alloc (.cells (cellsC B n s f inp) 48)) (madeCells #[.int .u64 0] (2 * n * 1)) 82
    rw [size_madeCells] at r
    rw [hw3]
    simpa using r
  rw [← hw3]
  have r0 := row 0; have r1 := row 1; have r2 := row 2; have r3 := row 3; have r4 := row 4; have r5 := row 5
  simp only [cs6, size_madeCells] at r0 r1 r2 r3 r4 r5
  rw [Nat.mul_one] at r0 r1 r2 rH
  refine ⟨?_, ?_, ?_, ?_, ?_, ?_, ?_, ?_, ?_⟩
  · refine rC.congr fun j hj => ?_
    match j, hj with
    | 0, _ | 1, _ | 2, _ | 3, _ | 4, _ | 5, _ | 6, _ | 7, _ | 8, _ | 9, _ | 10, _ | 11, _ | 12, _ | 13, _ | 14, _ | 15, _ => rfl
    | k + 16, h => omega
  · exact r0.congr fun j hj => by rw [made_get _ _ _ hj, one_mod]
  · exact r1.congr fun j hj => by rw [made_get _ _ _ hj, one_mod]
  · exact r2.congr fun j hj => by rw [made_get _ _ _ hj, one_mod]
  · show Row w3 (B 3) (2 * n) fun _ => nilS
    rw [Nat.mul_comm 2 n]
    refine r3.congr fun j hj => ?_
    rw [made_get _ _ _ hj]
    have h2 : j % 2 = 0 ∨ j % 2 = 1 := by omega
    show (#[Value.slice none 0 0, Value.slice none 0 0] : Array Value)[j % 2]! = nilS
    rcases h2 with h | h <;> rw [h] <;> rfl
  · show Row w3 (B 4) (3 * n) fun _ => .int .i64 0
    rw [Nat.mul_comm 3 n]
    refine r4.congr fun j hj => ?_
    rw [made_get _ _ _ hj]
    have h2 : j % 3 = 0 ∨ j % 3 = 1 ∨ j % 3 = 2 := by omega
    show (#[Value.int .i64 0, Value.int .i64 0, Value.int .i64 0] : Array Value)[j % 3]! = .int .i64 0
    rcases h2 with h | h | h <;> rw [h] <;> rfl
  · show Row w3 (B 5) (10 * n) _
    rw [Nat.mul_comm 10 n]
    exact r5.congr fun j hj => by rw [made_get _ _ _ hj, zc10_get (ndOf w1 B n s f inp)]
  · exact rH.congr fun j hj => by rw [made_get _ _ _ hj, one_mod]
  · show w1.heap.size < _ ∧ B 0 < _ ∧ B 1 < _ ∧ B 2 < _ ∧ B 3 < _ ∧ B 4 < _ ∧ B 5 < _ ∧ w1.heap.size + 1 < _
    omega
end Go.Proofs.YbulkcwpuFmt
