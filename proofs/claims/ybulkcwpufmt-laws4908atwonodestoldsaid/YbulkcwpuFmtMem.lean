/-
  What a node's memory holds: eight blocks, a plain state. No Go text in sight.
-/
import Derived.Test.YbulkcwpuFmtSix
namespace Go.Proofs.YbulkcwpuFmt
open Go.RowKit Go.Lib
set_option linter.unusedVariables false

/-- A node: her blocks and what of her never turns. -/
structure Nd where
  C : Nat
  V : Nat
  K : Nat
  U : Nat
  A : Nat
  L : Nat
  T : Nat
  H : Nat
  n : Nat
  s : Nat
  f : Nat
  inp : Int

/-- What of a node turns. -/
structure St where
  vals : Nat → Int
  ctrs : Nat → Int
  vch : Nat → Int
  lval : Nat → Int
  lctr : Nat → Int
  ini : Nat → Nat → Bool
  ecg : Nat → Nat → Bool
  cfm : Nat → Nat → Bool
  hrd : Nat → Nat → Int
  ech : Nat → Nat → Int
  few : Nat → Value
  stale : Bool
  out : Int

def up {α : Type} (g : Nat → α) (j : Nat) (x : α) : Nat → α := fun i => if i = j then x else g i
def up2 {α : Type} (g : Nat → Nat → α) (j v : Nat) (x : α) : Nat → Nat → α := fun i u => if i = j ∧ u = v then x else g i u
theorem up_same {α : Type} (g : Nat → α) (j : Nat) (x : α) : up g j x j = x := by simp [up]
theorem up_ne {α : Type} (g : Nat → α) (j i : Nat) (x : α) (h : i ≠ j) : up g j x i = g i := by simp [up, h]
theorem up2_same {α : Type} (g : Nat → Nat → α) (j v : Nat) (x : α) : up2 g j v x j v = x := by simp [up2]

def nilS : Value := .slice none 0 0
def cC (d : Nd) (st : St) : Nat → Value
  | 0 => .int .i64 d.s
  | 1 => .int .i64 d.n
  | 2 => .int .i64 d.f
  | 3 => .int .i64 d.inp
  | 4 => .int .i64 d.inp
  | 5 => .int .i64 0
  | 6 => slc d.n d.V
  | 7 => slc d.n d.K
  | 8 => slc d.n d.U
  | 9 => .bool false
  | 10 => slc d.n d.A
  | 11 => slc d.n d.L
  | 12 => slc d.n d.T
  | 13 => nilS
  | 14 => .bool st.stale
  | _ => .int .i64 st.out
def cA (st : St) (i : Nat) : Value := if i % 2 = 0 then st.few (i / 2) else nilS
def cL (st : St) (i : Nat) : Value := .int .i64 (if i % 3 = 0 then (i / 3 : Nat) else if i % 3 = 1 then st.lval (i / 3) else st.lctr (i / 3))
def rec5 (d : Nd) (st : St) (j v : Nat) : Nat → Value
  | 0 => .bool (st.ini j v)
  | 1 => .slice (some ⟨d.H, j * 2 + v, none⟩) 1 1
  | 2 => .int .i64 (st.ech j v)
  | 3 => .bool (st.ecg j v)
  | _ => .bool (st.cfm j v)
def cT (d : Nd) (st : St) (i : Nat) : Value := rec5 d st (i / 10) (i % 10 / 5) (i % 5)
def cH (st : St) (i : Nat) : Value := .int .u64 (st.hrd (i / 2) (i % 2))

structure Mem (d : Nd) (w : World) (st : St) : Prop where
  C : Row w d.C 16 (cC d st)
  V : Row w d.V d.n fun j => .int .i64 (st.vals j)
  K : Row w d.K d.n fun j => .int .i64 (st.ctrs j)
  U : Row w d.U d.n fun j => .int .i64 (st.vch j)
  A : Row w d.A (2 * d.n) (cA st)
  L : Row w d.L (3 * d.n) (cL st)
  T : Row w d.T (10 * d.n) (cT d st)
  H : Row w d.H (2 * d.n) (cH st)
  lt : d.C < w.heap.size ∧ d.V < w.heap.size ∧ d.K < w.heap.size ∧ d.U < w.heap.size ∧ d.A < w.heap.size ∧ d.L < w.heap.size ∧ d.T < w.heap.size ∧ d.H < w.heap.size

/-- The eight blocks are eight, all at or past 'base'. -/
structure Apart (d : Nd) (base : Nat) : Prop where
  CV : d.C ≠ d.V
  CK : d.C ≠ d.K
  CU : d.C ≠ d.U
  CA : d.C ≠ d.A
  CL : d.C ≠ d.L
  CT : d.C ≠ d.T
  CH : d.C ≠ d.H
  VK : d.V ≠ d.K
  VU : d.V ≠ d.U
  VA : d.V ≠ d.A
  VL : d.V ≠ d.L
  VT : d.V ≠ d.T
  VH : d.V ≠ d.H
  KU : d.K ≠ d.U
  KA : d.K ≠ d.A
  KL : d.K ≠ d.L
  KT : d.K ≠ d.T
  KH : d.K ≠ d.H
  UA : d.U ≠ d.A
  UL : d.U ≠ d.L
  UT : d.U ≠ d.T
  UH : d.U ≠ d.H
  AL : d.A ≠ d.L
  AT : d.A ≠ d.T
  AH : d.A ≠ d.H
  LT : d.L ≠ d.T
  LH : d.L ≠ d.H
  TH : d.T ≠ d.H
  ge : base ≤ d.C ∧ base ≤ d.V ∧ base ≤ d.K ∧ base ≤ d.U ∧ base ≤ d.A ∧ base ≤ d.L ∧ base ≤ d.T ∧ base ≤ d.H
  n6 : d.n ≤ 6
  n1 : 1 ≤ d.n
  fn : d.f < d.n
  sn : d.s < d.n
  bin : d.inp = 0 ∨ d.inp = 1

/-- One of the node's blocks. -/
def Own (d : Nd) (k : Nat) : Prop := k = d.C ∨ k = d.V ∨ k = d.K ∨ k = d.U ∨ k = d.A ∨ k = d.L ∨ k = d.T ∨ k = d.H

theorem Apart.not_own {d : Nd} {base : Nat} (h : Apart d base) {k : Nat} (hk : k < base) : ¬ Own d k := by
  have := h.ge
  unfold Own
  omega

/-- New blocks and writes elsewhere leave the node alone. -/
theorem Mem.fr {d : Nd} {w w' : World} {st : St} {S : Nat → Prop} (h : Mem d w st) (hf : Fr S w w') (hS : ∀ k, Own d k → ¬ S k) : Mem d w' st := by
  obtain ⟨l1, l2, l3, l4, l5, l6, l7, l8⟩ := h.lt
  have hz := hf.size
  exact ⟨h.C.fr hf l1 (hS _ (by simp [Own])), h.V.fr hf l2 (hS _ (by simp [Own])), h.K.fr hf l3 (hS _ (by simp [Own])), h.U.fr hf l4 (hS _ (by simp [Own])), h.A.fr hf l5 (hS _ (by simp [Own])),
    h.L.fr hf l6 (hS _ (by simp [Own])), h.T.fr hf l7 (hS _ (by simp [Own])), h.H.fr hf l8 (hS _ (by simp [Own])), by omega⟩
theorem Mem.below {d : Nd} {w w' : World} {st : St} (h : Mem d w st) (hb : Below w.heap.size w w') : Mem d w' st := h.fr (Fr.of_below (S := fun _ => False) hb) (fun _ _ h => h)
theorem Mem.drewN {d : Nd} {w : World} {st : St} (h : Mem d w st) (q : Nat) : Mem d (w.drewN q) st :=
  ⟨h.C.drewN, h.V.drewN, h.K.drewN, h.U.drewN, h.A.drewN, h.L.drewN, h.T.drewN, h.H.drewN, h.lt⟩

section
variable {d : Nd} {w : World} {st : St} {base : Nat}

theorem Row.setTo {w : World} {S m p : Nat} {f g : Nat → Value} {v : Value} (h : Row w S m f) (hp : p < m) (hv : g p = v) (ho : ∀ i, i < m → i ≠ p → g i = f i) : Row (w.setCell ⟨S, p, none⟩ v) S m g := by
  refine (h.set hp v).congr fun i hi => ?_
  by_cases e : i = p
  · subst e; rw [upd_same, hv]
  · rw [upd_ne _ _ _ _ e, ho i hi e]

theorem ltz (h : Mem d w st) (a : Addr) (v : Value) : d.C < (w.setCell a v).heap.size ∧ d.V < (w.setCell a v).heap.size ∧ d.K < (w.setCell a v).heap.size ∧ d.U < (w.setCell a v).heap.size ∧ d.A < (w.setCell a v).heap.size ∧ d.L < (w.setCell a v).heap.size ∧ d.T < (w.setCell a v).heap.size ∧ d.H < (w.setCell a v).heap.size := by
  have := h.lt
  simpa [World.setCell] using this

theorem Mem.setStale (h : Mem d w st) (ha : Apart d base) (x : Bool) : Mem d (w.setCell ⟨d.C, 14, none⟩ (.bool x)) { st with stale := x } :=
  ⟨h.C.setTo (by omega) rfl (fun i hi hne => by match i with | 0 | 1 | 2 | 3 | 4 | 5 | 6 | 7 | 8 | 9 | 10 | 11 | 12 | 13 | 15 => rfl | 14 => exact absurd rfl hne | k + 16 => omega),
    h.V.other ha.CV _, h.K.other ha.CK _, h.U.other ha.CU _, h.A.other ha.CA _, h.L.other ha.CL _, h.T.other ha.CT _, h.H.other ha.CH _, ltz h _ _⟩
theorem Mem.setOut (h : Mem d w st) (ha : Apart d base) (x : Int) : Mem d (w.setCell ⟨d.C, 15, none⟩ (.int .i64 x)) { st with out := x } :=
  ⟨h.C.setTo (by omega) rfl (fun i hi hne => by match i with | 0 | 1 | 2 | 3 | 4 | 5 | 6 | 7 | 8 | 9 | 10 | 11 | 12 | 13 | 14 => rfl | 15 => exact absurd rfl hne | k + 16 => omega),
    h.V.other ha.CV _, h.K.other ha.CK _, h.U.other ha.CU _, h.A.other ha.CA _, h.L.other ha.CL _, h.T.other ha.CT _, h.H.other ha.CH _, ltz h _ _⟩
theorem Mem.setV (h : Mem d w st) (ha : Apart d base) {j : Nat} (hj : j < d.n) (x : Int) : Mem d (w.setCell ⟨d.V, j, none⟩ (.int .i64 x)) { st with vals := up st.vals j x } :=
  ⟨h.C.other ha.CV.symm _, h.V.setTo hj (by simp [up]) (fun i hi hne => by simp [up, hne]), h.K.other ha.VK _, h.U.other ha.VU _, h.A.other ha.VA _, h.L.other ha.VL _, h.T.other ha.VT _, h.H.other ha.VH _, ltz h _ _⟩
theorem Mem.setK (h : Mem d w st) (ha : Apart d base) {j : Nat} (hj : j < d.n) (x : Int) : Mem d (w.setCell ⟨d.K, j, none⟩ (.int .i64 x)) { st with ctrs := up st.ctrs j x } :=
  ⟨h.C.other ha.CK.symm _, h.V.other ha.VK.symm _, h.K.setTo hj (by simp [up]) (fun i hi hne => by simp [up, hne]), h.U.other ha.KU _, h.A.other ha.KA _, h.L.other ha.KL _, h.T.other ha.KT _, h.H.other ha.KH _, ltz h _ _⟩
theorem Mem.setU (h : Mem d w st) (ha : Apart d base) {j : Nat} (hj : j < d.n) (x : Int) : Mem d (w.setCell ⟨d.U, j, none⟩ (.int .i64 x)) { st with vch := up st.vch j x } :=
  ⟨h.C.other ha.CU.symm _, h.V.other ha.VU.symm _, h.K.other ha.KU.symm _, h.U.setTo hj (by simp [up]) (fun i hi hne => by simp [up, hne]), h.A.other ha.UA _, h.L.other ha.UL _, h.T.other ha.UT _, h.H.other ha.UH _, ltz h _ _⟩
theorem Mem.setFew (h : Mem d w st) (ha : Apart d base) {j : Nat} (hj : j < d.n) (x : Value) : Mem d (w.setCell ⟨d.A, j * 2, none⟩ x) { st with few := up st.few j x } :=
  ⟨h.C.other ha.CA.symm _, h.V.other ha.VA.symm _, h.K.other ha.KA.symm _, h.U.other ha.UA.symm _,
    h.A.setTo (by omega) (by rw [cA, if_pos (by omega), Nat.mul_div_cancel j (by omega : 0 < 2)]; simp [up]) (fun i hi hne => by
      unfold cA
      by_cases e : i % 2 = 0
      · rw [if_pos e, if_pos e]; exact up_ne _ _ _ _ (by omega)
      · rw [if_neg e, if_neg e]),
    h.L.other ha.AL _, h.T.other ha.AT _, h.H.other ha.AH _, ltz h _ _⟩
theorem Mem.setMany (h : Mem d w st) (ha : Apart d base) {j : Nat} (hj : j < d.n) : Mem d (w.setCell ⟨d.A, j * 2 + 1, none⟩ (.slice none 0 0)) st :=
  ⟨h.C.other ha.CA.symm _, h.V.other ha.VA.symm _, h.K.other ha.KA.symm _, h.U.other ha.UA.symm _,
    h.A.setTo (by omega) (by rw [cA, if_neg (by omega)]; rfl) (fun i hi hne => rfl),
    h.L.other ha.AL _, h.T.other ha.AT _, h.H.other ha.AH _, ltz h _ _⟩
theorem Mem.setLctr (h : Mem d w st) (ha : Apart d base) {j : Nat} (hj : j < d.n) (x : Int) : Mem d (w.setCell ⟨d.L, j * 3 + 2, none⟩ (.int .i64 x)) { st with lctr := up st.lctr j x } :=
  ⟨h.C.other ha.CL.symm _, h.V.other ha.VL.symm _, h.K.other ha.KL.symm _, h.U.other ha.UL.symm _, h.A.other ha.AL.symm _,
    h.L.setTo (by omega) (by rw [cL, if_neg (by omega), if_neg (by omega), show (j * 3 + 2) / 3 = j by omega]; simp [up]) (fun i hi hne => by
      unfold cL
      by_cases e : i % 3 = 0
      · rw [if_pos e, if_pos e]
      · by_cases e1 : i % 3 = 1
        · rw [if_neg e, if_neg e, if_pos e1, if_pos e1]
        · rw [if_neg e, if_neg e, if_neg e1, if_neg e1]; exact congrArg _ (up_ne _ _ _ _ (by omega))),
    h.T.other ha.LT _, h.H.other ha.LH _, ltz h _ _⟩
theorem Mem.setLval (h : Mem d w st) (ha : Apart d base) {j : Nat} (hj : j < d.n) (x : Int) : Mem d (w.setCell ⟨d.L, j * 3 + 1, none⟩ (.int .i64 x)) { st with lval := up st.lval j x } :=
  ⟨h.C.other ha.CL.symm _, h.V.other ha.VL.symm _, h.K.other ha.KL.symm _, h.U.other ha.UL.symm _, h.A.other ha.AL.symm _,
    h.L.setTo (by omega) (by rw [cL, if_neg (by omega), if_pos (by omega), show (j * 3 + 1) / 3 = j by omega]; simp [up]) (fun i hi hne => by
      unfold cL
      by_cases e : i % 3 = 0
      · rw [if_pos e, if_pos e]
      · by_cases e1 : i % 3 = 1
        · rw [if_neg e, if_neg e, if_pos e1, if_pos e1]; exact congrArg _ (up_ne _ _ _ _ (by omega))
        · rw [if_neg e, if_neg e, if_neg e1, if_neg e1]),
    h.T.other ha.LT _, h.H.other ha.LH _, ltz h _ _⟩
theorem Mem.setLnode (h : Mem d w st) (ha : Apart d base) {j : Nat} (hj : j < d.n) : Mem d (w.setCell ⟨d.L, j * 3, none⟩ (.int .i64 j)) st :=
  ⟨h.C.other ha.CL.symm _, h.V.other ha.VL.symm _, h.K.other ha.KL.symm _, h.U.other ha.UL.symm _, h.A.other ha.AL.symm _,
    h.L.setTo (by omega) (by rw [cL, if_pos (by omega), Nat.mul_div_cancel j (by omega : 0 < 3)]) (fun i hi hne => rfl),
    h.T.other ha.LT _, h.H.other ha.LH _, ltz h _ _⟩

theorem place (j v k : Nat) (hv : v < 2) (hk : k < 5) : (j * 10 + v * 5 + k) / 10 = j ∧ (j * 10 + v * 5 + k) % 10 / 5 = v ∧ (j * 10 + v * 5 + k) % 5 = k := by omega
theorem place_ne {i j v k : Nat} (hk : i % 5 = k) (hne : i ≠ j * 10 + v * 5 + k) : ¬ (i / 10 = j ∧ i % 10 / 5 = v) := by omega

theorem Mem.setT (h : Mem d w st) (ha : Apart d base) {j v k : Nat} (hj : j < d.n) (hv : v < 2) (hk : k < 5) (x : Value) (st' : St) (h0 : rec5 d st' j v k = x)
    (h1 : ∀ i u q, q < 5 → ¬ (i = j ∧ u = v ∧ q = k) → rec5 d st' i u q = rec5 d st i u q)
    (e : st' = { st with ini := st'.ini, ecg := st'.ecg, cfm := st'.cfm, ech := st'.ech }) : Mem d (w.setCell ⟨d.T, j * 10 + v * 5 + k, none⟩ x) st' := by
  have hT := h.T.setTo (p := j * 10 + v * 5 + k) (g := cT d st') (v := x) (by omega) (by
      obtain ⟨p1, p2, p3⟩ := place j v k hv hk
      unfold cT
      rw [p1, p2, p3, h0]) (fun i hi hne => by
      unfold cT
      exact h1 _ _ _ (Nat.mod_lt _ (by omega)) (fun hh => hne (by omega)))
  rw [e] at hT ⊢
  exact ⟨h.C.other ha.CT.symm _, h.V.other ha.VT.symm _, h.K.other ha.KT.symm _, h.U.other ha.UT.symm _, h.A.other ha.AT.symm _, h.L.other ha.LT.symm _, hT, h.H.other ha.TH _, ltz h _ _⟩

theorem rec_up {α : Type} {g : Nat → Nat → α} {i j u v : Nat} {x : α} (h : ¬ (i = j ∧ u = v)) : up2 g j v x i u = g i u := by simp [up2, h]

theorem Mem.setIni (h : Mem d w st) (ha : Apart d base) {j v : Nat} (hj : j < d.n) (hv : v < 2) (x : Bool) : Mem d (w.setCell ⟨d.T, j * 10 + v * 5, none⟩ (.bool x)) { st with ini := up2 st.ini j v x } :=
  h.setT ha (k := 0) hj hv (by omega) _ _ (by simp [rec5, up2]) (fun i u q hq hn => by match q with | 0 => exact congrArg _ (rec_up fun hh => hn ⟨hh.1, hh.2, rfl⟩) | 1 | 2 | 3 => rfl | k + 4 => rfl) rfl
theorem Mem.setEch (h : Mem d w st) (ha : Apart d base) {j v : Nat} (hj : j < d.n) (hv : v < 2) (x : Int) : Mem d (w.setCell ⟨d.T, j * 10 + v * 5 + 2, none⟩ (.int .i64 x)) { st with ech := up2 st.ech j v x } :=
  h.setT ha (k := 2) hj hv (by omega) _ _ (by simp [rec5, up2]) (fun i u q hq hn => by match q with | 2 => exact congrArg _ (rec_up fun hh => hn ⟨hh.1, hh.2, rfl⟩) | 0 | 1 | 3 => rfl | k + 4 => rfl) rfl
theorem Mem.setEcg (h : Mem d w st) (ha : Apart d base) {j v : Nat} (hj : j < d.n) (hv : v < 2) (x : Bool) : Mem d (w.setCell ⟨d.T, j * 10 + v * 5 + 3, none⟩ (.bool x)) { st with ecg := up2 st.ecg j v x } :=
  h.setT ha (k := 3) hj hv (by omega) _ _ (by simp [rec5, up2]) (fun i u q hq hn => by match q with | 3 => exact congrArg _ (rec_up fun hh => hn ⟨hh.1, hh.2, rfl⟩) | 0 | 1 | 2 => rfl | k + 4 => rfl) rfl
theorem Mem.setCfm (h : Mem d w st) (ha : Apart d base) {j v : Nat} (hj : j < d.n) (hv : v < 2) (x : Bool) : Mem d (w.setCell ⟨d.T, j * 10 + v * 5 + 4, none⟩ (.bool x)) { st with cfm := up2 st.cfm j v x } :=
  h.setT ha (k := 4) hj hv (by omega) _ _ (by simp [rec5, up2]) (fun i u q hq hn => by
    match q with
    | 0 | 1 | 2 | 3 => rfl
    | 4 => exact congrArg _ (rec_up fun hh => hn ⟨hh.1, hh.2, rfl⟩)
    | k + 5 => omega) rfl
theorem Mem.setHeard (h : Mem d w st) (ha : Apart d base) {j v : Nat} (hj : j < d.n) (hv : v < 2) : Mem d (w.setCell ⟨d.T, j * 10 + v * 5 + 1, none⟩ (.slice (some ⟨d.H, j * 2 + v, none⟩) 1 1)) st :=
  h.setT ha (k := 1) hj hv (by omega) _ _ (by simp [rec5]) (fun i u q hq hn => rfl) rfl
theorem Mem.setHrd (h : Mem d w st) (ha : Apart d base) {j v : Nat} (hj : j < d.n) (hv : v < 2) (x : Int) : Mem d (w.setCell ⟨d.H, j * 2 + v, none⟩ (.int .u64 x)) { st with hrd := up2 st.hrd j v x } :=
  ⟨h.C.other ha.CH.symm _, h.V.other ha.VH.symm _, h.K.other ha.KH.symm _, h.U.other ha.UH.symm _, h.A.other ha.AH.symm _, h.L.other ha.LH.symm _, h.T.other ha.TH.symm _,
    h.H.setTo (by omega) (by unfold cH; rw [show (j * 2 + v) / 2 = j by omega, show (j * 2 + v) % 2 = v by omega]; simp [up2]) (fun i hi hne => by unfold cH; exact congrArg _ (rec_up (by omega))), ltz h _ _⟩

theorem Mem.tcell (h : Mem d w st) {j v k : Nat} (hj : j < d.n) (hv : v < 2) (hk : k < 5) : w.cell? ⟨d.T, j * 10 + v * 5 + k, none⟩ = some (rec5 d st j v k) := by
  have := h.T.cell (j * 10 + v * 5 + k) (by omega)
  obtain ⟨p1, p2, p3⟩ := place j v k hv hk
  unfold cT at this
  rw [p1, p2, p3] at this
  exact this
theorem Mem.tfree (h : Mem d w st) {j v k : Nat} (hj : j < d.n) (hv : v < 2) (hk : k < 5) : w.frozen? ⟨d.T, j * 10 + v * 5 + k, none⟩ = false := h.T.free _ (by omega)
theorem Mem.hcell (h : Mem d w st) {j v : Nat} (hj : j < d.n) (hv : v < 2) : w.cell? ⟨d.H, j * 2 + v, none⟩ = some (.int .u64 (st.hrd j v)) := by
  have := h.H.cell (j * 2 + v) (by omega)
  unfold cH at this
  rw [show (j * 2 + v) / 2 = j by omega, show (j * 2 + v) % 2 = v by omega] at this
  exact this
theorem Mem.hfree (h : Mem d w st) {j v : Nat} (hj : j < d.n) (hv : v < 2) : w.frozen? ⟨d.H, j * 2 + v, none⟩ = false := h.H.free _ (by omega)
end
end Go.Proofs.YbulkcwpuFmt
