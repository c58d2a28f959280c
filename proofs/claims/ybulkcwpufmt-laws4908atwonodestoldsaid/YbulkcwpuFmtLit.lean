import Derived.Test.YbulkcwpuFmtInit
namespace Go.Proofs.YbulkcwpuFmt
open Go.RowKit Go.Lib
set_option linter.unusedVariables false

def act6 (a : Act) (v : Fin 6 → Value) : Act :=
  (((((a.put (some 47) (v 0)).put (some 49) (v 1)).put (some 51) (v 2)).put (some 53) (v 3)).put (some 55) (v 4)).put (some 57) (v 5)

theorem put_put (a : Act) (d : Nat) (x y : Value) : (a.put (some d) x).put (some d) y = a.put (some d) y := by
  simp [Act.put]
theorem pc (a : Act) (d e : Nat) (x y : Value) (h : d ≠ e) : (a.put (some d) x).put (some e) y = (a.put (some e) y).put (some d) x :=
  Act.put_comm a x y (fun _ h1 h2 => h (by cases h1; cases h2; rfl))

theorem put6 (a : Act) (v : Fin 6 → Value) : ∀ (k : Fin 6) (x : Value), (act6 a v).put (some (47 + 2 * k.val)) x = act6 a (set6 v k x) := by
  refine fin6 ?_ ?_ ?_ ?_ ?_ ?_ <;> intro x
  · show (act6 a v).put (some 47) x = _
    unfold act6; rw [pc _ 57 47 _ _ (by decide), pc _ 55 47 _ _ (by decide), pc _ 53 47 _ _ (by decide), pc _ 51 47 _ _ (by decide), pc _ 49 47 _ _ (by decide), put_put]; rfl
  · show (act6 a v).put (some 49) x = _
    unfold act6; rw [pc _ 57 49 _ _ (by decide), pc _ 55 49 _ _ (by decide), pc _ 53 49 _ _ (by decide), pc _ 51 49 _ _ (by decide), put_put]; rfl
  · show (act6 a v).put (some 51) x = _
    unfold act6; rw [pc _ 57 51 _ _ (by decide), pc _ 55 51 _ _ (by decide), pc _ 53 51 _ _ (by decide), put_put]; rfl
  · show (act6 a v).put (some 53) x = _
    unfold act6; rw [pc _ 57 53 _ _ (by decide), pc _ 55 53 _ _ (by decide), put_put]; rfl
  · show (act6 a v).put (some 55) x = _
    unfold act6; rw [pc _ 57 55 _ _ (by decide), put_put]; rfl
  · show (act6 a v).put (some 57) x = _
    unfold act6; rw [put_put]; rfl

theorem eval6 (a : Act) (v : Fin 6 → Value) (t : Nat) (h : t ≠ 47 ∧ t ≠ 49 ∧ t ≠ 51 ∧ t ≠ 53 ∧ t ≠ 55 ∧ t ≠ 57) : (act6 a v).eval (.tmp t) = a.eval (.tmp t) := by
  obtain ⟨h1, h2, h3, h4, h5, h6⟩ := h
  unfold act6
  rw [Act.eval_put, Act.eval_put, Act.eval_put, Act.eval_put, Act.eval_put, Act.eval_put] <;> (intro d hd hx; cases hd; cases hx; contradiction)
theorem six' {P : Program} {ops : Array Oper} {Q : Exit → Act → World → Prop} (w : World) (n : Nat) (T el : Fin 6 → TypeId) (cs : Fin 6 → Array Value) (a : Act) (listed : Array Bool)
    (hl : listed = lst6 fun _ => false) (ha : act6 a (fun _ => undef) = a)
    (hops : ∀ k : Fin 6, (ops[6 + 2 * k.val]?).map (fun o => (o.dst, o.op, o.guard)) = some (some (47 + 2 * k.val), .makeSlice (T k) (.tmp (46 + 2 * k.val)) (.tmp (46 + 2 * k.val)), none))
    (hrd : ∀ b m, cnt6 b = m + 1 → Region.ready .any ops (lst6 b) = rdy6 b)
    (hev : ∀ k : Fin 6, a.eval (.tmp (46 + 2 * k.val)) = .int .i64 n)
    (hrun : ∀ (k : Fin 6) w, (Instr.makeSlice (T k) (.int .i64 n) (.int .i64 n)).run P w = .ok (slc n w.heap.size) (w.alloc (.cells (cs k) (el k))))
    (hfin : ∀ B w', Inv6 w cs el (fun _ => true) B w' → wpAny P .any ops Q 3 (lst6 fun _ => true) (act6 a fun k => slc n (B k)) w') : wpAny P .any ops Q 9 listed a w := by
  have hops' : ∀ k : Fin 6, ∃ ty pos aft, ops[6 + 2 * k.val]? = some ⟨some (47 + 2 * k.val), .makeSlice (T k) (.tmp (46 + 2 * k.val)) (.tmp (46 + 2 * k.val)), ty, pos, aft, none⟩ := by
    intro k
    obtain ⟨o, ho, h⟩ := Option.map_eq_some_iff.1 (hops k)
    obtain ⟨dst, op, ty, pos, aft, g⟩ := o
    simp only [Prod.mk.injEq] at h
    obtain ⟨rfl, rfl, rfl⟩ := h
    exact ⟨ty, pos, aft, ho⟩
  have key := six (P := P) (ops := ops) (Q := Q) w n T el cs (act6 a) hops' hrd (fun v k => by rw [eval6 a v _ (by omega)]; exact hev k) (fun v k x => put6 a v k x) hrun hfin 6 (fun _ => false) (fun _ => 0) w rfl
    ⟨Below.refl _ _, fun k h => (by cases h), fun j k _ h => (by cases h)⟩
  have e : act6 a (val6 n (fun _ => false) fun _ => 0) = a := ha
  rw [e] at key
  rw [hl]
  exact key

theorem info2 : (Ybaf.prog.info? 2).map (fun i => (i.zero, i.size, i.bytes)) = some (some (.int .i64 0), 1, 8) := by kernel_rfl
theorem info52 : (Ybaf.prog.info? 52).map (fun i => (i.zero, i.size, i.bytes)) = some (some (.agg #[.slice none 0 0, .slice none 0 0]), 2, 48) := by kernel_rfl
theorem info31 : (Ybaf.prog.info? 31).map (fun i => (i.zero, i.size, i.bytes)) = some (some (.agg #[.int .i64 0, .int .i64 0, .int .i64 0]), 3, 24) := by kernel_rfl
theorem info61 : (Ybaf.prog.info? 61).map (fun i => (i.zero, i.size, i.bytes)) = some (some (.agg #[.bool false, .slice none 0 0, .int .i64 0, .bool false, .bool false, .bool false, .slice none 0 0, .int .i64 0, .bool false, .bool false]), 10, 96) := by kernel_rfl
theorem info82 : (Ybaf.prog.info? 82).map (fun i => (i.zero, i.size, i.bytes)) = some (some (.int .u64 0), 1, 8) := by kernel_rfl

theorem make_any (t e : TypeId) (z : Value) (size bytes n : Nat) (cs : Array Value) (ht : Ybaf.prog.underlying t = some (.slice e)) (hi : (Ybaf.prog.info? e).map (fun i => (i.zero, i.size, i.bytes)) = some (some z, size, bytes))
    (hb : bytes ≤ 96) (hn : n ≤ 12) (hcs : z.cells = cs) (w : World) :
    (Instr.makeSlice t (.int .i64 n) (.int .i64 n)).run Ybaf.prog w = .ok (slc n w.heap.size) (w.alloc (.cells (madeCells cs (n * size)) e)) := by
  obtain ⟨i0, hi, hz0, hz1, hz2⟩ := info_parts hi
  have hmul : (bytes : Int) * (n : Int) ≤ 96 * 12 := by
    have h : bytes * n ≤ 96 * 12 := Nat.mul_le_mul hb hn
    have := Int.ofNat_le.2 h
    simpa using this
  have r := run_make (P := Ybaf.prog) w t e i0 z ht hi hz0 .i64 .i64 n n (by omega) (by omega) (by rw [hz2]; omega) (by omega)
  rw [hz1, hcs] at r
  simp only [Int.toNat_natCast] at r
  exact r

def T6 : Fin 6 → TypeId | 0 => 44 | 1 => 22 | 2 => 22 | 3 => 45 | 4 => 27 | 5 => 46
def el6 : Fin 6 → TypeId | 0 => 2 | 1 => 3 | 2 => 3 | 3 => 52 | 4 => 31 | 5 => 61
def zc10 : Array Value := #[.bool false, .slice none 0 0, .int .i64 0, .bool false, .bool false, .bool false, .slice none 0 0, .int .i64 0, .bool false, .bool false]
def cs6 (n : Nat) : Fin 6 → Array Value
  | 0 => madeCells #[.int .i64 0] (n * 1) | 1 => madeCells #[.int .i64 0] (n * 1) | 2 => madeCells #[.int .i64 0] (n * 1) | 3 => madeCells #[.slice none 0 0, .slice none 0 0] (n * 2)
  | 4 => madeCells #[.int .i64 0, .int .i64 0, .int .i64 0] (n * 3) | 5 => madeCells zc10 (n * 10)

theorem run6 (n : Nat) (hn : n ≤ 6) : ∀ (k : Fin 6) (w : World), (Instr.makeSlice (T6 k) (.int .i64 n) (.int .i64 n)).run Ybaf.prog w = .ok (slc n w.heap.size) (w.alloc (.cells (cs6 n k) (el6 k))) := by
  refine fin6 ?_ ?_ ?_ ?_ ?_ ?_ <;> intro w
  · exact make_any 44 2 _ 1 8 n _ Ybaf.underlying44 info2 (by omega) (by omega) rfl w
  · exact make_any 22 3 _ 1 8 n _ Ybaf.underlying22 info3 (by omega) (by omega) rfl w
  · exact make_any 22 3 _ 1 8 n _ Ybaf.underlying22 info3 (by omega) (by omega) rfl w
  · exact make_any 45 52 _ 2 48 n _ Ybaf.underlying45 info52 (by omega) (by omega) rfl w
  · exact make_any 27 31 _ 3 24 n _ Ybaf.underlying27 info31 (by omega) (by omega) rfl w
  · exact make_any 46 61 _ 10 96 n _ Ybaf.underlying46 info61 (by omega) (by omega) rfl w

theorem words_any (n : Nat) (hn : n ≤ 6) (hn1 : 1 ≤ n) (w : World) : Calls Ybaf.prog 15 #[.int .i64 n] w fun e w' => e = .returned (.int .i64 1) ∧ w' = w := by
  have h1 : ((n : Int) + 63) / 64 = 1 := by omega
  go_enter Ybaf.func15, Ybaf.ntmps15
  go_wp2_with fail
  go_ret
  exact ⟨ret_int h1, rfl⟩

/-- What the walk must know of the operations of the literal's region: closed facts. -/
structure LitOps (ops : Array Oper) : Prop where
  size : ops.size = 20
  nos : Region.noSelect ops = true
  m0 : (ops[0]?).map (fun o => (o.dst, o.op, o.guard)) = some (some 41, .move (.tmp 0), none)
  f0 : Region.free .any ops #[false, false, false, false, false, false, false, false, false, false, false, false, false, false, false, false, false, false, false, false] 0 = true
  r0 : (Region.ready .any ops #[false, false, false, false, false, false, false, false, false, false, false, false, false, false, false, false, false, false, false, false]).contains 0 = true
  m1 : (ops[1]?).map (fun o => (o.dst, o.op, o.guard)) = some (some 42, .move (.tmp 1), none)
  f1 : Region.free .any ops #[true, false, false, false, false, false, false, false, false, false, false, false, false, false, false, false, false, false, false, false] 1 = true
  r1 : (Region.ready .any ops #[true, false, false, false, false, false, false, false, false, false, false, false, false, false, false, false, false, false, false, false]).contains 1 = true
  m2 : (ops[2]?).map (fun o => (o.dst, o.op, o.guard)) = some (some 43, .move (.tmp 2), none)
  f2 : Region.free .any ops #[true, true, false, false, false, false, false, false, false, false, false, false, false, false, false, false, false, false, false, false] 2 = true
  r2 : (Region.ready .any ops #[true, true, false, false, false, false, false, false, false, false, false, false, false, false, false, false, false, false, false, false]).contains 2 = true
  m3 : (ops[3]?).map (fun o => (o.dst, o.op, o.guard)) = some (some 44, .move (.tmp 3), none)
  f3 : Region.free .any ops #[true, true, true, false, false, false, false, false, false, false, false, false, false, false, false, false, false, false, false, false] 3 = true
  r3 : (Region.ready .any ops #[true, true, true, false, false, false, false, false, false, false, false, false, false, false, false, false, false, false, false, false]).contains 3 = true
  m4 : (ops[4]?).map (fun o => (o.dst, o.op, o.guard)) = some (some 45, .move (.tmp 3), none)
  f4 : Region.free .any ops #[true, true, true, true, false, false, false, false, false, false, false, false, false, false, false, false, false, false, false, false] 4 = true
  r4 : (Region.ready .any ops #[true, true, true, true, false, false, false, false, false, false, false, false, false, false, false, false, false, false, false, false]).contains 4 = true
  m5 : (ops[5]?).map (fun o => (o.dst, o.op, o.guard)) = some (some 46, .move (.tmp 1), none)
  f5 : Region.free .any ops #[true, true, true, true, true, false, false, false, false, false, false, false, false, false, false, false, false, false, false, false] 5 = true
  r5 : (Region.ready .any ops #[true, true, true, true, true, false, false, false, false, false, false, false, false, false, false, false, false, false, false, false]).contains 5 = true
  m7 : (ops[7]?).map (fun o => (o.dst, o.op, o.guard)) = some (some 48, .move (.tmp 1), none)
  f7 : Region.free .any ops #[true, true, true, true, true, true, false, false, false, false, false, false, false, false, false, false, false, false, false, false] 7 = true
  r7 : (Region.ready .any ops #[true, true, true, true, true, true, false, false, false, false, false, false, false, false, false, false, false, false, false, false]).contains 7 = true
  m9 : (ops[9]?).map (fun o => (o.dst, o.op, o.guard)) = some (some 50, .move (.tmp 1), none)
  f9 : Region.free .any ops #[true, true, true, true, true, true, false, true, false, false, false, false, false, false, false, false, false, false, false, false] 9 = true
  r9 : (Region.ready .any ops #[true, true, true, true, true, true, false, true, false, false, false, false, false, false, false, false, false, false, false, false]).contains 9 = true
  m11 : (ops[11]?).map (fun o => (o.dst, o.op, o.guard)) = some (some 52, .move (.tmp 1), none)
  f11 : Region.free .any ops #[true, true, true, true, true, true, false, true, false, true, false, false, false, false, false, false, false, false, false, false] 11 = true
  r11 : (Region.ready .any ops #[true, true, true, true, true, true, false, true, false, true, false, false, false, false, false, false, false, false, false, false]).contains 11 = true
  m13 : (ops[13]?).map (fun o => (o.dst, o.op, o.guard)) = some (some 54, .move (.tmp 1), none)
  f13 : Region.free .any ops #[true, true, true, true, true, true, false, true, false, true, false, true, false, false, false, false, false, false, false, false] 13 = true
  r13 : (Region.ready .any ops #[true, true, true, true, true, true, false, true, false, true, false, true, false, false, false, false, false, false, false, false]).contains 13 = true
  m15 : (ops[15]?).map (fun o => (o.dst, o.op, o.guard)) = some (some 56, .move (.tmp 1), none)
  f15 : Region.free .any ops #[true, true, true, true, true, true, false, true, false, true, false, true, false, true, false, false, false, false, false, false] 15 = true
  r15 : (Region.ready .any ops #[true, true, true, true, true, true, false, true, false, true, false, true, false, true, false, false, false, false, false, false]).contains 15 = true
  mks : ∀ k : Fin 6, (ops[6 + 2 * k.val]?).map (fun o => (o.dst, o.op, o.guard)) = some (some (47 + 2 * k.val), .makeSlice (T6 k) (.tmp (46 + 2 * k.val)) (.tmp (46 + 2 * k.val)), none)
  rd : ∀ b0 b1 b2 b3 b4 b5 : Bool, (b0 && b1 && b2 && b3 && b4 && b5) = false → Region.ready .any ops #[true, true, true, true, true, true, b0, true, b1, true, b2, true, b3, true, b4, true, b5, false, false, false] =
    (if b0 then [] else [6]) ++ (if b1 then [] else [8]) ++ (if b2 then [] else [10]) ++ (if b3 then [] else [12]) ++ (if b4 then [] else [14]) ++ (if b5 then [] else [16])

theorem take_move {P : Program} {ops : Array Oper} {Q : Exit → Act → World → Prop} {md : Region.Mode} {fuel i d t : Nat} {x : Value} {listed : Array Bool} {a : Act} {w : World}
    (ho : (ops[i]?).map (fun o => (o.dst, o.op, o.guard)) = some (some d, .move (.tmp t), none)) (hs : Region.noSelect ops = true) (hf : Region.free md ops listed i = true) (hr : (Region.ready md ops listed).contains i = true)
    (hQ : ∀ c a (d : Nat) v w, Q (.panic c) (a.put (some d) v) w → Q (.panic c) a w) (hx : a.eval (.tmp t) = x)
    (h : wpAny P md ops Q fuel (listed.setIfInBounds i true) (a.put (some d) x) w) : wpAny P md ops Q (fuel + 1) listed a w := by
  obtain ⟨o, ho, he⟩ := Option.map_eq_some_iff.1 ho
  obtain ⟨dst, op, ty, pos, aft, g⟩ := o
  simp only [Prod.mk.injEq] at he
  obtain ⟨rfl, rfl, rfl⟩ := he
  refine wpAny_take (v := x) ho hs hf hr (fun c a w h => hQ c _ _ _ w h) (Or.inl ⟨rfl, fun w => ?_⟩) h
  simp [execOp, hx]

def mv (a : Act) (s n f inp : Value) : Act :=
  ((((((((((a.put (some 41) s).put (some 42) n).put (some 43) f).put (some 44) inp).put (some 45) inp).put (some 46) n).put (some 48) n).put (some 50) n).put (some 52) n).put (some 54) n).put (some 56) n

theorem ev (a : Act) (d t : Nat) (v : Value) (h : d ≠ t) : (a.put (some d) v).eval (.tmp t) = a.eval (.tmp t) := Act.eval_put (fun e he hx => by cases he; cases hx; exact h rfl)
theorem ev_same (a : Act) (d : Nat) (v : Value) (h : d < a.tmps.size) : (a.put (some d) v).eval (.tmp d) = v := by simp [Act.eval, Act.put, h]
theorem sz (a : Act) (d : Option Nat) (v : Value) : (a.put d v).tmps.size = a.tmps.size := by cases d <;> simp [Act.put]

theorem lit_region {P : Program} {ops : Array Oper} {Q : Exit → Act → World → Prop} (H : LitOps ops) (hQ : ∀ c a (d : Nat) v w, Q (.panic c) (a.put (some d) v) w → Q (.panic c) a w) (w : World) (n : Nat) (s f inp : Value) (a : Act)
    (hz : a.tmps.size = 131) (hs : a.eval (.tmp 0) = s) (hn : a.eval (.tmp 1) = .int .i64 n) (hf : a.eval (.tmp 2) = f) (hi : a.eval (.tmp 3) = inp)
    (hu : act6 (mv a s (.int .i64 n) f inp) (fun _ => undef) = mv a s (.int .i64 n) f inp)
    (hrun : ∀ (k : Fin 6) w, (Instr.makeSlice (T6 k) (.int .i64 n) (.int .i64 n)).run P w = .ok (slc n w.heap.size) (w.alloc (.cells (cs6 n k) (el6 k))))
    (hfin : ∀ B w', Inv6 w (cs6 n) el6 (fun _ => true) B w' → wpAny P .any ops Q 3 (lst6 fun _ => true) (act6 (mv a s (.int .i64 n) f inp) fun k => slc n (B k)) w') :
    wpAny P .any ops Q ops.size (Array.replicate ops.size false) a w := by
  rw [H.size]
  refine take_move (x := s) H.m0 H.nos H.f0 H.r0 hQ (by rw [hs]) ?_
  refine take_move (x := .int .i64 n) H.m1 H.nos H.f1 H.r1 hQ (by rw [ev _ _ _ _ (by decide), hn]) ?_
  refine take_move (x := f) H.m2 H.nos H.f2 H.r2 hQ (by rw [ev _ _ _ _ (by decide), ev _ _ _ _ (by decide), hf]) ?_
  refine take_move (x := inp) H.m3 H.nos H.f3 H.r3 hQ (by rw [ev _ _ _ _ (by decide), ev _ _ _ _ (by decide), ev _ _ _ _ (by decide), hi]) ?_
  refine take_move (x := inp) H.m4 H.nos H.f4 H.r4 hQ (by rw [ev _ _ _ _ (by decide), ev _ _ _ _ (by decide), ev _ _ _ _ (by decide), ev _ _ _ _ (by decide), hi]) ?_
  refine take_move (x := .int .i64 n) H.m5 H.nos H.f5 H.r5 hQ (by rw [ev _ _ _ _ (by decide), ev _ _ _ _ (by decide), ev _ _ _ _ (by decide), ev _ _ _ _ (by decide), ev _ _ _ _ (by decide), hn]) ?_
  refine take_move (x := .int .i64 n) H.m7 H.nos H.f7 H.r7 hQ (by rw [ev _ _ _ _ (by decide), ev _ _ _ _ (by decide), ev _ _ _ _ (by decide), ev _ _ _ _ (by decide), ev _ _ _ _ (by decide), ev _ _ _ _ (by decide), hn]) ?_
  refine take_move (x := .int .i64 n) H.m9 H.nos H.f9 H.r9 hQ (by rw [ev _ _ _ _ (by decide), ev _ _ _ _ (by decide), ev _ _ _ _ (by decide), ev _ _ _ _ (by decide), ev _ _ _ _ (by decide), ev _ _ _ _ (by decide), ev _ _ _ _ (by decide), hn]) ?_
  refine take_move (x := .int .i64 n) H.m11 H.nos H.f11 H.r11 hQ (by rw [ev _ _ _ _ (by decide), ev _ _ _ _ (by decide), ev _ _ _ _ (by decide), ev _ _ _ _ (by decide), ev _ _ _ _ (by decide), ev _ _ _ _ (by decide), ev _ _ _ _ (by decide), ev _ _ _ _ (by decide), hn]) ?_
  refine take_move (x := .int .i64 n) H.m13 H.nos H.f13 H.r13 hQ (by rw [ev _ _ _ _ (by decide), ev _ _ _ _ (by decide), ev _ _ _ _ (by decide), ev _ _ _ _ (by decide), ev _ _ _ _ (by decide), ev _ _ _ _ (by decide), ev _ _ _ _ (by decide), ev _ _ _ _ (by decide), ev _ _ _ _ (by decide), hn]) ?_
  refine take_move (x := .int .i64 n) H.m15 H.nos H.f15 H.r15 hQ (by rw [ev _ _ _ _ (by decide), ev _ _ _ _ (by decide), ev _ _ _ _ (by decide), ev _ _ _ _ (by decide), ev _ _ _ _ (by decide), ev _ _ _ _ (by decide), ev _ _ _ _ (by decide), ev _ _ _ _ (by decide), ev _ _ _ _ (by decide), ev _ _ _ _ (by decide), hn]) ?_
  refine six' w n T6 el6 (cs6 n) (mv a s (.int .i64 n) f inp) _ rfl hu H.mks ?_ ?_ hrun hfin
  · intro b m h
    refine H.rd _ _ _ _ _ _ ?_
    revert h
    simp only [cnt6]
    generalize b 0 = b0
    generalize b 1 = b1
    generalize b 2 = b2
    generalize b 3 = b3
    generalize b 4 = b4
    generalize b 5 = b5
    cases b0 <;> cases b1 <;> cases b2 <;> cases b3 <;> cases b4 <;> cases b5 <;> simp
  · refine fin6 ?_ ?_ ?_ ?_ ?_ ?_
    · show (mv a s (.int .i64 n) f inp).eval (.tmp 46) = _
      unfold mv
      rw [ev _ _ _ _ (by decide), ev _ _ _ _ (by decide), ev _ _ _ _ (by decide), ev _ _ _ _ (by decide), ev _ _ _ _ (by decide), ev_same _ _ _ (by simp only [sz]; omega)]
    · show (mv a s (.int .i64 n) f inp).eval (.tmp 48) = _
      unfold mv
      rw [ev _ _ _ _ (by decide), ev _ _ _ _ (by decide), ev _ _ _ _ (by decide), ev _ _ _ _ (by decide), ev_same _ _ _ (by simp only [sz]; omega)]
    · show (mv a s (.int .i64 n) f inp).eval (.tmp 50) = _
      unfold mv
      rw [ev _ _ _ _ (by decide), ev _ _ _ _ (by decide), ev _ _ _ _ (by decide), ev_same _ _ _ (by simp only [sz]; omega)]
    · show (mv a s (.int .i64 n) f inp).eval (.tmp 52) = _
      unfold mv
      rw [ev _ _ _ _ (by decide), ev _ _ _ _ (by decide), ev_same _ _ _ (by simp only [sz]; omega)]
    · show (mv a s (.int .i64 n) f inp).eval (.tmp 54) = _
      unfold mv
      rw [ev _ _ _ _ (by decide), ev_same _ _ _ (by simp only [sz]; omega)]
    · show (mv a s (.int .i64 n) f inp).eval (.tmp 56) = _
      unfold mv
      rw [ev_same _ _ _ (by simp only [sz]; omega)]
end Go.Proofs.YbulkcwpuFmt
