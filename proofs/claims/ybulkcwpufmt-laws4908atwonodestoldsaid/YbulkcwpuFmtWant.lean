/-
  What 'LawS4908ATwoNodes' looks for in the report, and that the node comes to the same. No Go text in sight.
-/
import Derived.Test.YbulkcwpuFmtRcv
import Derived.Test.YbulkcwpuFmtSame
namespace Go.Proofs.YbulkcwpuFmt
open Go.RowKit Go.Lib
set_option linter.unusedVariables false

def hitB (z : Nat → Nat → Int) (j : Nat) (W : Int) (i : Nat) : Bool := decide (z i 0 = (j : Int)) && decide (z i 2 = W) && (decide (z i 1 = 0) || decide (z i 1 = 1))
def hit0B (z : Nat → Nat → Int) (j : Nat) (W : Int) (i : Nat) : Bool := decide (z i 0 = (j : Int)) && decide (z i 2 = W) && decide (z i 1 = 0)
def seenB (z : Nat → Nat → Int) (j : Nat) (W : Int) : Nat → Bool
  | 0 => false
  | m + 1 => seenB z j W m || hitB z j W m
def zeroB (z : Nat → Nat → Int) (j : Nat) (W : Int) : Nat → Bool
  | 0 => false
  | m + 1 => zeroB z j W m || hit0B z j W m

theorem seen_iff (z : Nat → Nat → Int) (j : Nat) (W : Int) : ∀ m, seenB z j W m = true ↔ ∃ i, i < m ∧ z i 0 = (j : Int) ∧ z i 2 = W ∧ (z i 1 = 0 ∨ z i 1 = 1)
  | 0 => by simp [seenB]
  | m + 1 => by
    rw [seenB, Bool.or_eq_true, seen_iff z j W m]
    constructor
    · rintro (⟨i, hi, h⟩ | h)
      · exact ⟨i, by omega, h⟩
      · simp only [hitB, Bool.and_eq_true, Bool.or_eq_true, decide_eq_true_eq] at h
        exact ⟨m, by omega, h.1.1, h.1.2, h.2⟩
    · rintro ⟨i, hi, h1, h2, h3⟩
      by_cases e : i = m
      · subst e; right; simp only [hitB, Bool.and_eq_true, Bool.or_eq_true, decide_eq_true_eq]; exact ⟨⟨h1, h2⟩, h3⟩
      · left; exact ⟨i, by omega, h1, h2, h3⟩
theorem zero_iff (z : Nat → Nat → Int) (j : Nat) (W : Int) : ∀ m, zeroB z j W m = true ↔ ∃ i, i < m ∧ z i 0 = (j : Int) ∧ z i 2 = W ∧ z i 1 = 0
  | 0 => by simp [zeroB]
  | m + 1 => by
    rw [zeroB, Bool.or_eq_true, zero_iff z j W m]
    constructor
    · rintro (⟨i, hi, h⟩ | h)
      · exact ⟨i, by omega, h⟩
      · simp only [hit0B, Bool.and_eq_true, decide_eq_true_eq] at h
        exact ⟨m, by omega, h.1.1, h.1.2, h.2⟩
    · rintro ⟨i, hi, h1, h2, h3⟩
      by_cases e : i = m
      · subst e; right; simp only [hit0B, Bool.and_eq_true, decide_eq_true_eq]; exact ⟨⟨h1, h2⟩, h3⟩
      · left; exact ⟨i, by omega, h1, h2, h3⟩

def wantM (n0 : Nat) (z0 : Nat → Int) (n1 : Nat) (z1 : Nat → Nat → Int) (j : Nat) : Int :=
  if 0 ≤ wantC n0 z0 j ∧ (seenB z1 j (wantC n0 z0 j) n1 && !zeroB z1 j (wantC n0 z0 j) n1) = true then 1 else 0

theorem Post.want {d : Nd} {n0 n1 : Nat} {z0 : Nat → Int} {z1 : Nat → Nat → Int} {st : St} (h : Post d (wantC n0 z0) z1 n1 st) (j : Nat) (hj : j < 2) : st.vals j = wantM n0 z0 n1 z1 j := by
  rw [h.val j hj, wantM]
  have c1 := h.cfm j 1 hj (by omega)
  have c0 := h.cfm j 0 hj (by omega)
  have s := seen_iff z1 j (wantC n0 z0 j) n1
  have t := zero_iff z1 j (wantC n0 z0 j) n1
  by_cases hw : 0 ≤ wantC n0 z0 j
  · cases hb : zeroB z1 j (wantC n0 z0 j) n1 with
    | true =>
      obtain ⟨i, hi, h1, h2, h3⟩ := t.1 hb
      have : st.cfm j 0 = true := c0.2 ⟨hw, i, hi, h1, h3, h2⟩
      rw [this]
      simp
    | false =>
      have n0' : st.cfm j 0 = false := by
        cases hc : st.cfm j 0 with
        | false => rfl
        | true =>
          obtain ⟨_, i, hi, h1, h3, h2⟩ := c0.1 hc
          have := t.2 ⟨i, hi, h1, h2, h3⟩
          rw [hb] at this
          cases this
      rw [n0']
      cases hs : seenB z1 j (wantC n0 z0 j) n1 with
      | true =>
        obtain ⟨i, hi, h1, h2, h3⟩ := s.1 hs
        have h3' : z1 i 1 = 1 := by
          rcases h3 with h3 | h3
          · have := t.2 ⟨i, hi, h1, h2, h3⟩
            rw [hb] at this
            cases this
          · exact h3
        have : st.cfm j 1 = true := c1.2 ⟨hw, i, hi, h1, h3', h2⟩
        rw [this]
        simp [hw]
      | false =>
        have : st.cfm j 1 = false := by
          cases hc : st.cfm j 1 with
          | false => rfl
          | true =>
            obtain ⟨_, i, hi, h1, h3, h2⟩ := c1.1 hc
            have := s.2 ⟨i, hi, h1, h2, .inr h3⟩
            rw [hs] at this
            cases this
        rw [this]
        simp
  · have : st.cfm j 1 = false := by
      cases hc : st.cfm j 1 with
      | false => rfl
      | true => exact absurd (c1.1 hc).1 hw
    rw [this]
    simp [hw]

theorem Post.outW {d : Nd} {n0 n1 : Nat} {z0 : Nat → Int} {z1 : Nat → Nat → Int} {st : St} (h : Post d (wantC n0 z0) z1 n1 st) : st.out = wantM n0 z0 n1 z1 (if wantC n0 z0 1 < wantC n0 z0 0 then 1 else 0) := by
  rw [h.out, so_two, h.ctr 0 (by omega), h.ctr 1 (by omega)]
  have h01 : ∀ j, wantM n0 z0 n1 z1 j = 0 ∨ wantM n0 z0 n1 z1 j = 1 := fun j => by unfold wantM; split <;> simp
  by_cases hc : wantC n0 z0 1 < wantC n0 z0 0
  · rw [if_pos hc, h.want 1 (by omega)]
    rcases h01 1 with e | e <;> rw [e] <;> rfl
  · rw [if_neg hc, h.want 0 (by omega)]
    rcases h01 0 with e | e <;> rw [e] <;> rfl
end Go.Proofs.YbulkcwpuFmt
