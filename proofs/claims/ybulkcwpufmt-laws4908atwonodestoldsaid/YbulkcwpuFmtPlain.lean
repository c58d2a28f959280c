/-
  Two nodes, no liar: what the node's plain state does at a vouch and at an echo. No Go text in sight.
-/
import Derived.Test.YbulkcwpuFmtOne
namespace Go.Proofs.YbulkcwpuFmt
open Go.RowKit Go.Lib
set_option linter.unusedVariables false

/-- Of the claim (j, v, C[j]) nothing was heard, or the node's own echo alone. -/
structure Clean (d : Nd) (st : St) (j v : Nat) : Prop where
  c : st.cfm j v = false
  e : (st.ecg j v = false ∧ st.hrd j v = 0 ∧ st.ech j v = 0) ∨ (st.ecg j v = true ∧ st.hrd j v = orB 0 d.s ∧ st.ech j v = 1)

/-- Nothing was confirmed of node j. -/
structure Pre (st : St) (j : Nat) : Prop where
  few : st.few j = nilS
  ctr : st.ctrs j = -1
  vch : -1 ≤ st.vch j
  lb : 0 ≤ st.lctr j → st.lval j = 0 ∨ st.lval j = 1

structure Bas (d : Nd) (st : St) : Prop where
  val : ∀ j, j < 2 → st.vals j = 0
  cl : ∀ j v, j < 2 → v < 2 → Clean d st j v
  out : st.out = SO 2 0 st.vals st.ctrs

theorem has0 (s : Nat) (hs : s < 2) : hasB 0 s = false := by
  have : s = 0 ∨ s = 1 := by omega
  rcases this with rfl | rfl <;> decide
theorem hasOr (s o : Nat) (h : s + o = 1) : hasB (orB 0 s) o = false := by
  have : (s = 0 ∧ o = 1) ∨ (s = 1 ∧ o = 0) := by omega
  rcases this with ⟨rfl, rfl⟩ | ⟨rfl, rfl⟩ <;> decide

theorem set2_at {α : Type} (g : Nat → Nat → α) (j v : Nat) (x : α) (hv : v < 2) : set2 g j x j v = x := by
  have : v = 0 ∨ v = 1 := by omega
  rcases this with rfl | rfl <;> simp [set2, up2]
theorem set2_ne {α : Type} (g : Nat → Nat → α) (i j v : Nat) (x : α) (h : i ≠ j) : set2 g j x i v = g i v := by simp [set2, up2, h]

/-- A node that takes its own init at C[j]: it echoes it, and hears itself alone. -/
theorem take_two (d : Nd) (st : St) (j v : Nat) (hn : d.n = 2) (hf : d.f = 0) (hs : d.s < 2) (hi : st.ini j 0 = false ∧ st.ini j 1 = false) (he : st.ecg j v = false) (hh : st.hrd j v = 0) (hc : st.ech j v = 0) :
    takeAtP d st j v = heardSt (startedSt { st with ini := up2 st.ini j v true } j v) j v d.s := by
  have h1 : (startedSt { st with ini := up2 st.ini j v true } j v).ecg j v = true := by simp [startedSt, up2]
  have h2 : (startedSt { st with ini := up2 st.ini j v true } j v).ech j v = 0 := hc
  have h3 : (startedSt { st with ini := up2 st.ini j v true } j v).hrd j v = 0 := hh
  unfold takeAtP
  rw [hi.1, hi.2]
  simp only [Bool.or_self, Bool.false_eq_true, if_false]
  unfold startEchoP
  rw [if_neg (by show ¬ st.ecg j v = true; rw [he]; decide)]
  unfold hearG
  rw [h1, h2, h3, has0 _ hs, hn, hf]
  simp

/-- C[j] rises: what stands then. -/
theorem adv_two (d : Nd) (st : St) (j : Nat) (k : Int) (hn : d.n = 2) (hf : d.f = 0) (hs : d.s < 2) (hj : j < 2) (hk : 0 ≤ k) (hp : 0 ≤ st.lctr j → st.lval j = 0 ∨ st.lval j = 1) (hv : ∀ i, i < 2 → st.vals i = 0) (hc : ∀ i v, i < 2 → v < 2 → Clean d st i v) :
    Bas d (advanceP d st j k) ∧ (advanceP d st j k).ctrs = up st.ctrs j k ∧ ∀ i, i < 2 → i ≠ j → Pre st i → Pre (advanceP d st j k) i := by
  have key : (∀ i, i < 2 → (advMid d st j k).vals i = 0) ∧ (advMid d st j k).ctrs = up st.ctrs j k ∧ (∀ i v, i < 2 → v < 2 → Clean d (advMid d st j k) i v) ∧ ∀ i, i < 2 → i ≠ j → Pre st i → Pre (advMid d st j k) i := by
    have hval : ∀ i, i < 2 → up st.vals j 0 i = 0 := fun i hi => by unfold up; split; rfl; exact hv i hi
    have hres : ∀ i v, i < 2 → v < 2 → Clean d (resetSt st j k) i v := fun i v hi hv' => by
      by_cases e : i = j
      · subst e
        exact ⟨set2_at _ _ _ _ hv', .inl ⟨set2_at _ _ _ _ hv', set2_at _ _ _ _ hv', set2_at _ _ _ _ hv'⟩⟩
      · have h := hc i v hi hv'
        refine ⟨(set2_ne _ _ _ _ _ e).trans h.c, ?_⟩
        rcases h.e with h | h
        · exact .inl ⟨(set2_ne _ _ _ _ _ e).trans h.1, (set2_ne _ _ _ _ _ e).trans h.2.1, (set2_ne _ _ _ _ _ e).trans h.2.2⟩
        · exact .inr ⟨(set2_ne _ _ _ _ _ e).trans h.1, (set2_ne _ _ _ _ _ e).trans h.2.1, (set2_ne _ _ _ _ _ e).trans h.2.2⟩
    have hpre : ∀ i, i < 2 → i ≠ j → Pre st i → Pre (resetSt st j k) i := fun i hi hne h => ⟨(up_ne _ _ _ _ hne).trans h.few, (up_ne _ _ _ _ hne).trans h.ctr, h.vch, h.lb⟩
    have hlow : ∀ i v, i < 2 → v < 2 → Clean d (lowSt st j k) i v := fun i v hi hv' => ⟨(hres i v hi hv').c, (hres i v hi hv').e⟩
    have hprel : ∀ i, i < 2 → i ≠ j → Pre st i → Pre (lowSt st j k) i := fun i hi hne h => ⟨(up_ne _ _ _ _ hne).trans h.few, (up_ne _ _ _ _ hne).trans h.ctr, h.vch, fun hh => h.lb (by rwa [show (lowSt st j k).lctr i = st.lctr i from up_ne _ _ _ _ hne] at hh)⟩
    unfold advMid
    split
    · rename_i hle
      split
      · rename_i heq
        obtain ⟨v0, hv0, hlv⟩ : ∃ v0 : Nat, v0 < 2 ∧ (st.lval j).toNat = v0 := by
          rcases hp (by omega) with h | h
          · exact ⟨0, by omega, by rw [h]; rfl⟩
          · exact ⟨1, by omega, by rw [h]; rfl⟩
        rw [hlv]
        have h0 := hlow j v0 hj hv0
        have hz : (lowSt st j k).ecg j v0 = false ∧ (lowSt st j k).hrd j v0 = 0 ∧ (lowSt st j k).ech j v0 = 0 := ⟨set2_at _ _ _ _ hv0, set2_at _ _ _ _ hv0, set2_at _ _ _ _ hv0⟩
        rw [take_two d (lowSt st j k) j v0 hn hf hs ⟨set2_at _ _ _ _ (by omega), set2_at _ _ _ _ (by omega)⟩ hz.1 hz.2.1 hz.2.2]
        refine ⟨hval, rfl, fun i v hi hv' => ?_, fun i hi hne h => ⟨(hprel i hi hne h).few, (hprel i hi hne h).ctr, (hprel i hi hne h).vch, (hprel i hi hne h).lb⟩⟩
        have h := hlow i v hi hv'
        refine ⟨h.c, ?_⟩
        by_cases e : i = j ∧ v = v0
        · obtain ⟨rfl, rfl⟩ := e
          right
          refine ⟨?_, ?_, ?_⟩
          · show up2 _ _ _ _ _ _ = _; rw [up2_same]
          · show up2 (lowSt st i k).hrd _ _ _ _ _ = _
            rw [up2_same]
            show orB ((lowSt st i k).hrd i v) d.s = _
            rw [hz.2.1]
          · show up2 _ _ _ _ _ _ = _
            rw [up2_same]
            show (lowSt st i k).ech i v + 1 = 1
            rw [hz.2.2]; rfl
        · rcases h.e with h | h
          · exact .inl ⟨(rec_up e).trans h.1, (rec_up e).trans h.2.1, (rec_up e).trans h.2.2⟩
          · exact .inr ⟨(rec_up e).trans h.1, (rec_up e).trans h.2.1, (rec_up e).trans h.2.2⟩
      · exact ⟨hval, rfl, hlow, hprel⟩
    · exact ⟨hval, rfl, hres, hpre⟩
  obtain ⟨k1, k2, k3, k4⟩ := key
  refine ⟨⟨k1, fun i v hi hv => ⟨(k3 i v hi hv).c, (k3 i v hi hv).e⟩, ?_⟩, k2, fun i hi hne h => ⟨(k4 i hi hne h).few, (k4 i hi hne h).ctr, (k4 i hi hne h).vch, (k4 i hi hne h).lb⟩⟩
  show SO d.n d.f _ _ = SO 2 0 _ _
  rw [hn, hf]
  rfl

/-- What is told of a claim that is confirmed. -/
theorem confirm_two (d : Nd) (st : St) (j v : Nat) (hn : d.n = 2) (hf : d.f = 0) (ho : st.out = SO 2 0 st.vals st.ctrs) :
    (confirmP d st j v).vals = up st.vals j (if up2 st.cfm j v true j 0 then 0 else 1) ∧ (confirmP d st j v).ctrs = st.ctrs ∧ (confirmP d st j v).cfm = up2 st.cfm j v true ∧
      (confirmP d st j v).ecg = st.ecg ∧ (confirmP d st j v).hrd = st.hrd ∧ (confirmP d st j v).ech = st.ech ∧ (confirmP d st j v).out = SO 2 0 (confirmP d st j v).vals (confirmP d st j v).ctrs := by
  unfold confirmP
  generalize (if up2 st.cfm j v true j 0 = true then (0 : Int) else 1) = l
  split
  · rename_i h
    refine ⟨?_, rfl, rfl, rfl, rfl, rfl, ho⟩
    funext i
    unfold up
    split
    · rename_i e; subst e; exact h.symm
    · rfl
  · exact ⟨rfl, rfl, rfl, rfl, rfl, rfl, by rw [hn, hf]⟩

/-- The other node's echo of a claim that is not confirmed confirms it. -/
theorem hear_two (d : Nd) (st : St) (j v o : Nat) (hn : d.n = 2) (hf : d.f = 0) (hs : d.s + o = 1) (hc : Clean d st j v) (ho : st.out = SO 2 0 st.vals st.ctrs) :
    ∃ Y : St, hearP d st j v o = confirmP d Y j v ∧ Y.vals = st.vals ∧ Y.ctrs = st.ctrs ∧ Y.cfm = st.cfm ∧ Y.out = st.out ∧
      ∀ i u, ¬ (i = j ∧ u = v) → Y.ecg i u = st.ecg i u ∧ Y.hrd i u = st.hrd i u ∧ Y.ech i u = st.ech i u := by
  have hs2 : d.s < 2 := by omega
  have ho2 : o < 2 := by omega
  have hcf := hc.c
  rcases hc.e with ⟨e1, e2, e3⟩ | ⟨e1, e2, e3⟩
  · refine ⟨heardSt (startedSt (heardSt st j v o) j v) j v d.s, ?_, rfl, rfl, rfl, rfl, fun i u h => ⟨rec_up h, ?_, ?_⟩⟩
    · unfold hearP hearG
      rw [e2, has0 o ho2, e3, hf, if_neg (by decide), if_pos ⟨by decide, e1⟩]
      unfold startEchoP
      rw [if_neg (by show ¬ st.ecg j v = true; rw [e1]; decide)]
      unfold hearG
      have q1 : (startedSt (heardSt st j v o) j v).hrd j v = orB 0 o := by show up2 st.hrd j v (orB (st.hrd j v) o) j v = _; rw [up2_same, e2]
      have q2 : (startedSt (heardSt st j v o) j v).ech j v = 1 := by show up2 st.ech j v (st.ech j v + 1) j v = _; rw [up2_same, e3]; rfl
      have q3 : (startedSt (heardSt st j v o) j v).ecg j v = true := by show up2 st.ecg j v true j v = _; rw [up2_same]
      have q4 : (startedSt (heardSt st j v o) j v).cfm j v = false := hcf
      rw [q1, hasOr o d.s (by omega), q2, q3, q4, hn, hf]
      simp
    · show up2 (up2 st.hrd j v _) j v _ i u = _; rw [rec_up h, rec_up h]
    · show up2 (up2 st.ech j v _) j v _ i u = _; rw [rec_up h, rec_up h]
  · refine ⟨heardSt st j v o, ?_, rfl, rfl, rfl, rfl, fun i u h => ⟨rfl, rec_up h, rec_up h⟩⟩
    unfold hearP hearG
    rw [e2, hasOr d.s o hs, e1, e3, hcf, hn, hf]
    simp

/-- After m echoes: W: the confirmed counters. -/
structure Post (d : Nd) (W : Nat → Int) (z : Nat → Nat → Int) (m : Nat) (st : St) : Prop where
  ctr : ∀ j, j < 2 → st.ctrs j = W j
  out : st.out = SO 2 0 st.vals st.ctrs
  val : ∀ j, j < 2 → st.vals j = if st.cfm j 1 = true ∧ st.cfm j 0 = false then 1 else 0
  cfm : ∀ j v, j < 2 → v < 2 → (st.cfm j v = true ↔ 0 ≤ W j ∧ ∃ i, i < m ∧ z i 0 = (j : Int) ∧ z i 1 = (v : Int) ∧ z i 2 = W j)
  cl : ∀ j v, j < 2 → v < 2 → st.cfm j v = false → Clean d st j v

theorem Post.start {d : Nd} {W : Nat → Int} {z : Nat → Nat → Int} {st : St} (h : Bas d st) (hw : ∀ j, j < 2 → st.ctrs j = W j) : Post d W z 0 st :=
  ⟨hw, h.out, fun j hj => by rw [(h.cl j 1 hj (by omega)).c]; simpa using h.val j hj, fun j v hj hv => by rw [(h.cl j v hj hv).c]; simp, fun j v hj hv _ => h.cl j v hj hv⟩

/-- An echo that is passed over. -/
theorem Post.skip {d : Nd} {W : Nat → Int} {z : Nat → Nat → Int} {m : Nat} {st : St} (h : Post d W z m st)
    (hno : ∀ j v : Nat, j < 2 → v < 2 → 0 ≤ W j → z m 0 = (j : Int) → z m 1 = (v : Int) → z m 2 = W j → st.cfm j v = true) : Post d W z (m + 1) st := by
  refine ⟨h.ctr, h.out, h.val, fun j v hj hv => ?_, h.cl⟩
  constructor
  · intro hc
    obtain ⟨h0, i, hi, hh⟩ := (h.cfm j v hj hv).1 hc
    exact ⟨h0, i, by omega, hh⟩
  · rintro ⟨h0, i, hi, h1, h2, h3⟩
    by_cases e : i = m
    · subst e; exact hno j v hj hv h0 h1 h2 h3
    · exact (h.cfm j v hj hv).2 ⟨h0, i, by omega, h1, h2, h3⟩

/-- An echo that confirms its claim. -/
theorem Post.hear {d : Nd} {W : Nat → Int} {z : Nat → Nat → Int} {m : Nat} {st : St} (h : Post d W z m st) (hn : d.n = 2) (hf : d.f = 0) {o j v : Nat} (hs : d.s + o = 1) (hj : j < 2) (hv : v < 2)
    (h0 : z m 0 = (j : Int)) (h1 : z m 1 = (v : Int)) (h2 : z m 2 = W j) (hw : 0 ≤ W j) (hc : st.cfm j v = false) : Post d W z (m + 1) (hearP d st j v o) := by
  obtain ⟨Y, e, y1, y2, y3, y4, y5⟩ := hear_two d st j v o hn hf hs (h.cl j v hj hv hc) h.out
  rw [e]
  obtain ⟨p1, p2, p3, p4, p5, p6, p7⟩ := confirm_two d Y j v hn hf (by rw [y4, y1, y2]; exact h.out)
  rw [y1, y3] at p1
  rw [y3] at p3
  rw [y2] at p2
  refine ⟨fun i hi => by rw [p2]; exact h.ctr i hi, p7, fun i hi => ?_, fun i u hi hu => ?_, fun i u hi hu hcc => ?_⟩
  · rw [p1, p3]
    by_cases ei : i = j
    · subst ei
      rw [up_same]
      have hv2 : v = 0 ∨ v = 1 := by omega
      rcases hv2 with rfl | rfl
      · simp [up2]
      · cases hb : st.cfm i 0 <;> simp [up2, hb]
    · rw [up_ne _ _ _ _ ei, h.val i hi, rec_up (fun hh => ei hh.1), rec_up (fun hh => ei hh.1)]
  · rw [p3]
    by_cases eq : i = j ∧ u = v
    · obtain ⟨rfl, rfl⟩ := eq
      rw [up2_same]
      exact ⟨fun _ => ⟨hw, m, by omega, h0, h1, h2⟩, fun _ => rfl⟩
    · rw [rec_up eq, h.cfm i u hi hu]
      constructor
      · rintro ⟨a, i', b, c⟩; exact ⟨a, i', by omega, c⟩
      · rintro ⟨a, i', b, c1, c2, c3⟩
        refine ⟨a, i', ?_, c1, c2, c3⟩
        by_cases em : i' = m
        · subst em; exact absurd ⟨by omega, by omega⟩ eq
        · omega
  · rw [p3] at hcc
    have eq : ¬ (i = j ∧ u = v) := fun hh => by obtain ⟨rfl, rfl⟩ := hh; rw [up2_same] at hcc; cases hcc
    rw [rec_up eq] at hcc
    have hcl := h.cl i u hi hu hcc
    obtain ⟨q1, q2, q3⟩ := y5 i u eq
    refine ⟨by rw [p3, rec_up eq]; exact hcc, ?_⟩
    rw [p4, p5, p6, q1, q2, q3]
    exact hcl.e

theorem so_two (vals ct : Nat → Int) : SO 2 0 vals ct = if vals (if ct 1 < ct 0 then 1 else 0) = 1 then 1 else 0 := by
  have e : insOut (cOf ct) (2 - 1) 0 = if ct 1 < ct 0 then 1 else 0 := by
    show (if cOf ct 1 < cOf ct 0 then swp (fun k => (k : Int)) (0 + 1) 0 else fun k => (k : Int)) 0 = _
    have h1 : cOf ct 1 = ct 1 := rfl
    have h0 : cOf ct 0 = ct 0 := rfl
    rw [h1, h0]
    by_cases hc : ct 1 < ct 0
    · rw [if_pos hc, if_pos hc]; rfl
    · rw [if_neg hc, if_neg hc]; rfl
  have e1 : ones vals (insOut (cOf ct) (2 - 1)) (min (2 * 0 + 1) 2) = if vals (if ct 1 < ct 0 then 1 else 0) = 1 then 1 else 0 := by
    show 0 + (if vals (insOut (cOf ct) (2 - 1) 0).toNat = 1 then (1 : Int) else 0) = _
    rw [e]
    by_cases hc : ct 1 < ct 0
    · rw [if_pos hc, if_pos hc]; exact Int.zero_add _
    · rw [if_neg hc, if_neg hc]; exact Int.zero_add _
  unfold SO
  rw [e1]
  by_cases hv : vals (if ct 1 < ct 0 then 1 else 0) = 1
  · rw [if_pos hv]; rfl
  · rw [if_neg hv]; rfl
end Go.Proofs.YbulkcwpuFmt
