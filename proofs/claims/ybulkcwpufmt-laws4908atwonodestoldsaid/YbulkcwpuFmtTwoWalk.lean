/-
  The walk of 'LawS4908ATwoNodes' (3), the slices short.
-/
import Derived.Test.YbulkcwpuFmtWant
namespace Go.Proofs.YbulkcwpuFmt
open Go.RowKit Go.Lib
set_option linter.unusedVariables false

theorem Below.after {n : Nat} {a b c : World} (h : Below n a b) (k : Below b.heap.size b c) (hn : n ≤ b.heap.size) : Below n a c :=
  h.trans ⟨k.os, k.tape, k.output, k.size, fun i hi => k.block i (Nat.lt_of_lt_of_le hi hn)⟩

theorem quiet_in_two {P : Program} {f : FuncId} {args : Array Value} {w : World} {a n : Nat} {v : Value}
    (h : Calls P f args (w.drewN (a + n)) fun e w' => e = .returned v ∧ w' = w.drewN (a + n)) : Calls P f args (w.drewN (a + n)) fun e w'' => e = .returned v ∧ ∃ m, w'' = w.drewN (a + m) :=
  h.mono fun _ _ ⟨he, hm⟩ => ⟨he, n, hm⟩

/-- The arrays 'want' and 'wantM', at the blocks P and P + 1; all that lay below is as it was. -/
structure Two (w4 : World) (P : Nat) (wr : World) (h1 h2 : Nat → Value) : Prop where
  bel : Below P w4 wr
  r1 : Row wr P 2 h1
  r2 : Row wr (P + 1) 2 h2
  lt : P + 1 < wr.heap.size

section
variable {w4 wr : World} {P : Nat} {h1 h2 : Nat → Value}
theorem Two.set1 (h : Two w4 P wr h1 h2) {j : Nat} (hj : j < 2) (v : Value) : Two w4 P (wr.setCell ⟨P, j, none⟩ v) (upd h1 j v) h2 :=
  ⟨h.bel.setCell (Nat.le_refl _) _, h.r1.set hj v, h.r2.other (by show P ≠ P + 1; omega) _, by simpa [World.setCell] using h.lt⟩
theorem Two.set2 (h : Two w4 P wr h1 h2) {j : Nat} (hj : j < 2) (v : Value) : Two w4 P (wr.setCell ⟨P + 1, j, none⟩ v) h1 (upd h2 j v) :=
  ⟨h.bel.setCell (by show P ≤ P + 1; omega) _, h.r1.other (by show P + 1 ≠ P; omega) _, h.r2.set hj v, by simpa [World.setCell] using h.lt⟩
theorem Two.on (h : Two w4 P wr h1 h2) {wx : World} (hb : Below wr.heap.size wr wx) : Two w4 P wx h1 h2 :=
  ⟨Below.after h.bel hb (by have := h.lt; omega), h.r1.below hb (by have := h.lt; omega), h.r2.below hb h.lt, Nat.lt_of_lt_of_le h.lt hb.size⟩
theorem Two.drewN (h : Two w4 P wr h1 h2) (q : Nat) : Two w4 P (wr.drewN q) h1 h2 := ⟨⟨h.bel.os, h.bel.tape, h.bel.output, h.bel.size, h.bel.block⟩, h.r1.drewN, h.r2.drewN, h.lt⟩
theorem Two.new (w4 : World) : Two w4 w4.heap.size ((w4.alloc (.cells #[.int .i64 0, .int .i64 0] 34)).alloc (.cells #[.int .i64 0, .int .i64 0] 35)) (fun _ => .int .i64 0) (fun _ => .int .i64 0) := by
  refine ⟨((Below.refl _ w4).alloc (Nat.le_refl _) _).alloc (by simp) _, ?_, ?_, by simp⟩
  · have r := Row.new w4 #[.int .i64 0, .int .i64 0] 34
    have r' := r.fr ((Fr.refl (fun _ => False) _).alloc (.cells #[.int .i64 0, .int .i64 0] 35)) (by simp) (fun h => h)
    refine r'.congr fun j hj => ?_
    have : j = 0 ∨ j = 1 := by simp at hj; omega
    rcases this with rfl | rfl <;> rfl
  · have r := Row.new (w4.alloc (.cells #[.int .i64 0, .int .i64 0] 34)) #[.int .i64 0, .int .i64 0] 35
    rw [show (w4.alloc (.cells #[.int .i64 0, .int .i64 0] 34)).heap.size = w4.heap.size + 1 by simp] at r
    refine r.congr fun j hj => ?_
    have : j = 0 ∨ j = 1 := by simp at hj; omega
    rcases this with rfl | rfl <;> rfl
end

structure GotW (n0 : Nat) (z0 : Nat → Int) (n1 : Nat) (z1 : Nat → Nat → Int) (m : Nat) (h1 h2 : Nat → Value) : Prop where
  a : ∀ i, i < m → h1 i = .int .i64 (wantC n0 z0 i)
  b : ∀ i, i < m → h2 i = .int .i64 (wantM n0 z0 n1 z1 i)
  c : ∀ i, m ≤ i → i < 2 → h2 i = .int .i64 0

theorem GotW.step {n0 n1 : Nat} {z0 : Nat → Int} {z1 : Nat → Nat → Int} {m : Nat} {h1 h2 g1 g2 : Nat → Value} (h : GotW n0 z0 n1 z1 m h1 h2) (e1 : g1 m = .int .i64 (wantC n0 z0 m)) (d1 : ∀ i, i ≠ m → g1 i = h1 i)
    (e2 : g2 m = .int .i64 (wantM n0 z0 n1 z1 m)) (d2 : ∀ i, i ≠ m → g2 i = h2 i) : GotW n0 z0 n1 z1 (m + 1) g1 g2 := by
  refine ⟨fun i hi => ?_, fun i hi => ?_, fun i hi h2' => by rw [d2 i (by omega)]; exact h.c i (by omega) h2'⟩
  · by_cases e : i = m
    · subst e; exact e1
    · rw [d1 i e]; exact h.a i (by omega)
  · by_cases e : i = m
    · subst e; exact e2
    · rw [d2 i e]; exact h.b i (by omega)

theorem seen_no {z : Nat → Nat → Int} {j : Nat} {W : Int} {i : Nat} (h : ¬ (z i 0 = (j : Int) ∧ z i 2 = W ∧ (z i 1 = 0 ∨ z i 1 = 1))) : seenB z j W (i + 1) = seenB z j W i ∧ zeroB z j W (i + 1) = zeroB z j W i := by
  have a : hitB z j W i = false := by
    cases hb : hitB z j W i with
    | false => rfl
    | true =>
      simp only [hitB, Bool.and_eq_true, Bool.or_eq_true, decide_eq_true_eq] at hb
      exact absurd ⟨hb.1.1, hb.1.2, hb.2⟩ h
  have b : hit0B z j W i = false := by
    cases hb : hit0B z j W i with
    | false => rfl
    | true =>
      simp only [hit0B, Bool.and_eq_true, decide_eq_true_eq] at hb
      exact absurd ⟨hb.1.1, hb.1.2, .inl hb.2⟩ h
  rw [seenB, zeroB, a, b, Bool.or_false, Bool.or_false]
  exact ⟨rfl, rfl⟩
theorem seen_one {z : Nat → Nat → Int} {j : Nat} {W : Int} {i : Nat} (h0 : z i 0 = (j : Int)) (h2 : z i 2 = W) (h1 : z i 1 = 1) : seenB z j W (i + 1) = true ∧ zeroB z j W (i + 1) = zeroB z j W i := by
  have a : hitB z j W i = true := by simp [hitB, h0, h1, h2]
  have b : hit0B z j W i = false := by simp [hit0B, h1]
  rw [seenB, zeroB, a, b, Bool.or_false, Bool.or_true]
  exact ⟨rfl, rfl⟩
theorem seen_zero {z : Nat → Nat → Int} {j : Nat} {W : Int} {i : Nat} (h0 : z i 0 = (j : Int)) (h2 : z i 2 = W) (h1 : z i 1 = 0) : seenB z j W (i + 1) = true ∧ zeroB z j W (i + 1) = true := by
  have a : hitB z j W i = true := by simp [hitB, h0, h1, h2]
  have b : hit0B z j W i = true := by simp [hit0B, h0, h1, h2]
  rw [seenB, zeroB, a, b, Bool.or_true, Bool.or_true]
  exact ⟨rfl, rfl⟩

set_option maxRecDepth 20000 in
set_option maxHeartbeats 3200000 in
theorem two_walk (sp inp : Bool) (ind iv ic : Int) (a0 a1 : Option Addr) (n0 c0 n1 c1 b0 o0 b1 o1 : Nat) (z0 : Nat → Int) (z1 : Nat → Nat → Int) (w : World)
    (hnil0 : a0 = none → n0 = 0) (hc0 : ∀ i, i < n0 → a0 = some ⟨b0, o0, none⟩ ∧ b0 < w.heap.size ∧ w.cell? ⟨b0, o0 + i, none⟩ = some (.int .i64 (z0 i)))
    (hnil1 : a1 = none → n1 = 0) (hc1 : ∀ i, i < n1 → a1 = some ⟨b1, o1, none⟩ ∧ b1 < w.heap.size ∧ ∀ k, k < 3 → w.cell? ⟨b1, o1 + i * 3 + k, none⟩ = some (.int .i64 (z1 i k)))
    (hn0 : n0 ≤ 1024) (hn1 : n1 ≤ 1024) :
    Calls Ybaf.prog 3 #[.bool sp, .bool inp, .slice a0 n0 c0, .slice a1 n1 c1, .int .i64 ind, .int .i64 iv, .int .i64 ic] w fun e w' => e = .returned (.bool true) ∧ Below w.heap.size w w' := by
  have e0 : decide ((1024 : Int) < (n0 : Int)) = false := decide_eq_false (by omega)
  have e1 : decide ((1024 : Int) < (n1 : Int)) = false := decide_eq_false (by omega)
  have H0 : Hid (∀ i, i < n0 → a0 = some ⟨b0, o0, none⟩ ∧ b0 < w.heap.size ∧ w.cell? ⟨b0, o0 + i, none⟩ = some (.int .i64 (z0 i))) := hc0
  have H1 : Hid (∀ i, i < n1 → a1 = some ⟨b1, o1, none⟩ ∧ b1 < w.heap.size ∧ ∀ k, k < 3 → w.cell? ⟨b1, o1 + i * 3 + k, none⟩ = some (.int .i64 (z1 i k))) := hc1
  clear hc0 hc1
  obtain ⟨I, hI⟩ : ∃ I : Int, I = if inp then 1 else 0 := ⟨_, rfl⟩
  have hI01 : I = 0 ∨ I = 1 := by rw [hI]; cases inp <;> simp
  obtain ⟨S, hS⟩ : ∃ S : Nat, S = if sp then 1 else 0 := ⟨_, rfl⟩
  have hS2 : S < 2 := by rw [hS]; cases sp <;> simp
  obtain ⟨o, ho⟩ : ∃ o : Nat, S + o = 1 := ⟨1 - S, by omega⟩
  have hsub : (1 : Int) - (S : Int) = (o : Int) := by omega
  go_enter Ybaf.func3, Ybaf.ntmps3
  go_upto_if 40 with fail
  go_cut [15] (fun s15 wc => s15 = .int .i64 S ∧ wc = w)
  case first =>
    cases sp with
    | false =>
      go_wp2_with fail
      go_meet
      case rel => exact ⟨by rw [hS]; rfl, rfl⟩
    | true =>
      go_wp2_with fail
      go_meet
      case rel => exact ⟨by rw [hS]; rfl, rfl⟩
  case rest =>
    obtain ⟨rfl, hwc⟩ := hcut
    rw [hwc]
    clear hwc wc hS
    go_upto_if 41 with fail
    go_cut [16] (fun s16 wc => s16 = .int .i64 I ∧ wc = w)
    case first =>
      cases inp with
      | false =>
        go_wp2_with fail
        go_meet
        case rel => exact ⟨by rw [hI]; rfl, rfl⟩
      | true =>
        go_wp2_with fail
        go_meet
        case rel => exact ⟨by rw [hI]; rfl, rfl⟩
    case rest =>
      obtain ⟨rfl, hwc⟩ := hcut
      rw [hwc]
      clear hwc wc hI
      have HN := new_ok 2 S 0 I w (by omega) (by omega) (by omega) hS2 hI01
      go_wp2_with fail
      refine HN.mono ?_
      rintro e wN ⟨d, rfl, hA, dn, ds, df, di, hB, hM⟩
      have HCp := copy_any z0 a0 b0 o0 n0 c0 wN hn0 hnil0 (fun i hi => ⟨(H0.out i hi).1, Nat.lt_of_lt_of_le (H0.out i hi).2.1 hB.size, (hB.cell (p := ⟨b0, o0 + i, none⟩) (H0.out i hi).2.1).trans (H0.out i hi).2.2⟩)
      have HBN : Hid (Below w.heap.size w wN) := hB
      have HMN : Hid (Mem d wN (newSt d)) := hM
      have HA : Hid (Apart d w.heap.size) := hA
      clear HN hB hM hA
      go_wp2_with fail
      refine HCp.mono ?_
      rintro e w1 ⟨p0, rfl, hp0, hb1, hcp0⟩
      have B1 : Below w.heap.size w w1 := Below.after HBN.out hb1 HBN.out.size
      have HCl := claims_any z1 a1 b1 o1 n1 c1 w1 hn1 hnil1 (fun i hi => ⟨(H1.out i hi).1, Nat.lt_of_lt_of_le (H1.out i hi).2.1 B1.size, fun k hk => (B1.cell (p := ⟨b1, o1 + i * 3 + k, none⟩) (H1.out i hi).2.1).trans ((H1.out i hi).2.2 k hk)⟩)
      have HB1 : Hid (Below w.heap.size w w1) := B1
      have HM1 : Hid (Mem d w1 (newSt d)) := HMN.out.below hb1
      have HP0 : Hid (∀ x, p0 = some x → ∃ g, x = ⟨g, 0, none⟩ ∧ wN.heap.size ≤ g ∧ g < w1.heap.size ∧ ∀ i, i < n0 → w1.cell? ⟨g, i, none⟩ = some (.int .i64 (z0 i))) := hcp0
      have hz1 : wN.heap.size ≤ w1.heap.size := hb1.size
      clear HCp hb1 hcp0 B1 HBN
      go_wp2_with fail
      refine HCl.mono ?_
      rintro e w2 ⟨p1, rfl, hp1, hb2, hcp1⟩
      obtain ⟨gC, hgC⟩ : ∃ gC, ∀ i, i < n0 → p0 = some ⟨gC, 0, none⟩ ∧ gC < w2.heap.size ∧ ¬ Own d gC ∧ w2.cell? ⟨gC, i, none⟩ = some (.int .i64 (z0 i)) := by
        cases p0 with
        | none => exact ⟨0, fun i hi => by have := hnil0 (by cases a0 with | none => rfl | some x => simp at hp0); omega⟩
        | some x =>
          obtain ⟨g, rfl, g1, g2, g3⟩ := HP0.out x rfl
          refine ⟨g, fun i hi => ⟨rfl, Nat.lt_of_lt_of_le g2 hb2.size, ?_, (hb2.cell (p := ⟨g, i, none⟩) g2).trans (g3 i hi)⟩⟩
          have := HMN.out.lt
          unfold Own
          omega
      obtain ⟨gE, hgE⟩ : ∃ gE, ∀ i, i < n1 → p1 = some ⟨gE, 0, none⟩ ∧ gE < w2.heap.size ∧ ¬ Own d gE ∧ ∀ k, k < 3 → w2.cell? ⟨gE, i * 3 + k, none⟩ = some (.int .i64 (z1 i k)) := by
        cases p1 with
        | none => exact ⟨0, fun i hi => by have := hnil1 (by cases a1 with | none => rfl | some x => simp at hp1); omega⟩
        | some x =>
          obtain ⟨g, rfl, g1, g2, g3⟩ := hcp1 x rfl
          refine ⟨g, fun i hi => ⟨rfl, g2, ?_, fun k hk => g3 i hi k hk⟩⟩
          have := HMN.out.lt
          unfold Own
          omega
      have B2 : Below w.heap.size w w2 := Below.after HB1.out hb2 HB1.out.size
      have M2 : Mem d w2 (newSt d) := HM1.out.below hb2
      have HRv := receive_two d w.heap.size HA.out dn df o (by omega) ind iv ic p1 p0 n1 n0 gE gC z0 z1 w2 M2 hn0 hn1 hgC hgE
      have HB2 : Hid (Below w.heap.size w w2) := B2
      have HgC : Hid (∀ i, i < n0 → p0 = some ⟨gC, 0, none⟩ ∧ gC < w2.heap.size ∧ ¬ Own d gC ∧ w2.cell? ⟨gC, i, none⟩ = some (.int .i64 (z0 i))) := hgC
      have HgE : Hid (∀ i, i < n1 → p1 = some ⟨gE, 0, none⟩ ∧ gE < w2.heap.size ∧ ¬ Own d gE ∧ ∀ k, k < 3 → w2.cell? ⟨gE, i * 3 + k, none⟩ = some (.int .i64 (z1 i k))) := hgE
      clear HCl hb2 hcp1 HB1 HM1 HMN HP0 B2 M2 hgC hgE hz1
      go_wp2_with fail
      refine HRv.mono ?_
      rintro e w4 ⟨rfl, F4, st, M4, P4⟩
      have B4 : Below w.heap.size w w4 := HB2.out.trans (F4.below HB2.out.size (fun k hk => HA.out.not_own hk))
      have HgC4 : Hid (∀ i, i < n0 → p0 = some ⟨gC, 0, none⟩ ∧ gC < w4.heap.size ∧ w4.cell? ⟨gC, i, none⟩ = some (.int .i64 (z0 i))) := fun i hi => by
        obtain ⟨q1, q2, q3, q4⟩ := HgC.out i hi
        exact ⟨q1, Nat.lt_of_lt_of_le q2 F4.size, (F4.cell (p := ⟨gC, i, none⟩) q2 q3).trans q4⟩
      have HgE4 : Hid (∀ i, i < n1 → p1 = some ⟨gE, 0, none⟩ ∧ gE < w4.heap.size ∧ ∀ k, k < 3 → w4.cell? ⟨gE, i * 3 + k, none⟩ = some (.int .i64 (z1 i k))) := fun i hi => by
        obtain ⟨q1, q2, q3, q4⟩ := HgE.out i hi
        exact ⟨q1, Nat.lt_of_lt_of_le q2 F4.size, fun k hk => (F4.cell (p := ⟨gE, i * 3 + k, none⟩) q2 q3).trans (q4 k hk)⟩
      have H04 : Hid (∀ i, i < n0 → a0 = some ⟨b0, o0, none⟩ ∧ b0 < w4.heap.size ∧ w4.cell? ⟨b0, o0 + i, none⟩ = some (.int .i64 (z0 i))) := fun i hi => by
        obtain ⟨q1, q2, q3⟩ := H0.out i hi
        exact ⟨q1, Nat.lt_of_lt_of_le q2 B4.size, (B4.cell (p := ⟨b0, o0 + i, none⟩) q2).trans q3⟩
      have H14 : Hid (∀ i, i < n1 → a1 = some ⟨b1, o1, none⟩ ∧ b1 < w4.heap.size ∧ ∀ k, k < 3 → w4.cell? ⟨b1, o1 + i * 3 + k, none⟩ = some (.int .i64 (z1 i k))) := fun i hi => by
        obtain ⟨q1, q2, q3⟩ := H1.out i hi
        exact ⟨q1, Nat.lt_of_lt_of_le q2 B4.size, fun k hk => (B4.cell (p := ⟨b1, o1 + i * 3 + k, none⟩) q2).trans (q3 k hk)⟩
      have HB4 : Hid (Below w.heap.size w w4) := B4
      have HM4 : Hid (Mem d w4 st) := M4
      have HP4 : Hid (Post d (wantC n0 z0) z1 n1 st) := P4
      clear HRv F4 M4 P4 B4 HB2 HgC HgE H0 H1
      obtain ⟨w5, e5⟩ : ∃ w5, (w4.alloc (.cells #[.int .i64 0, .int .i64 0] 34)).alloc (.cells #[.int .i64 0, .int .i64 0] 35) = w5 := ⟨_, rfl⟩
      have HT5 : Hid (∃ h1 h2, Two w4 w4.heap.size w5 h1 h2 ∧ GotW n0 z0 n1 z1 0 h1 h2) := ⟨_, _, e5 ▸ Two.new w4, ⟨fun i h => absurd h (Nat.not_lt_zero _), fun i h => absurd h (Nat.not_lt_zero _), fun i _ _ => rfl⟩⟩
      obtain ⟨P, hPP⟩ : ∃ P, w4.heap.size = P := ⟨_, rfl⟩
      rw [hPP] at HT5 HgC4 HgE4 H04 H14
      go_wp2_with fail
      clear e5
      go_loopw [23] (fun x wr => ∃ m : Nat, m ≤ 2 ∧ x = .int .i64 m ∧ ∃ h1 h2, Two w4 P wr h1 h2 ∧ GotW n0 z0 n1 z1 m h1 h2) (fun x _ => 2 - (intOf x).toNat)
      case atStart => exact ⟨0, Nat.zero_le _, rfl, HT5.out⟩
      case round =>
        clear HT5
        obtain ⟨m, hm, rfl, h1, h2, hT, hG⟩ := hrel
        by_cases hlt : m < 2
        · have p1 := hT.r1.cell m hlt
          have p2 := hT.r1.free m hlt
          obtain ⟨x1, y1⟩ : ∃ x1, wr.setCell ⟨P, m, none⟩ (.int .i64 (-1)) = x1 := ⟨_, rfl⟩
          have T1 : Two w4 P x1 _ _ := y1 ▸ hT.set1 hlt (.int .i64 (-1))
          have q1 := T1.r1.cell m hlt
          have q2 := T1.r1.free m hlt
          rw [upd_same] at q1
          have hG' := hG
          by_cases hmn : m < n0
          · obtain ⟨u1, u2, u3⟩ := H04.out m hmn
            have s0 := (T1.bel.cell (p := ⟨b0, o0 + m, none⟩) u2).trans u3
            have hmi : (m : Int) < (n0 : Int) := by omega
            by_cases hz : 0 ≤ z0 m
            · have hW : wantC n0 z0 m = z0 m := by rw [wantC, if_pos ⟨hmn, hz⟩]
              obtain ⟨x2, y2⟩ : ∃ x2, x1.setCell ⟨P, m, none⟩ (.int .i64 (z0 m)) = x2 := ⟨_, rfl⟩
              have T2 : Two w4 P x2 _ _ := y2 ▸ T1.set1 hlt (.int .i64 (z0 m))
              have q3 := T2.r1.cell m hlt
              rw [upd_same] at q3
              have HT2 : Hid (Two w4 P x2 (upd (upd h1 m (.int .i64 (-1))) m (.int .i64 (z0 m))) h2) := T2
              have HG : Hid (GotW n0 z0 n1 z1 m h1 h2) := hG
              have HW : Hid (wantC n0 z0 m = z0 m) := hW
              have hzd : decide (z0 m < 0) = false := decide_eq_false (by omega)
              clear T1 T2 hT hG hG' hW u3
              cases u1
              go_wp2_with fail
              clear p1 p2 q1 q2 s0 y1 y2
              go_loopw [24, 25, 90] (fun s24 s25 x wi => ∃ i : Nat, i ≤ n1 ∧ x = .int .i64 i ∧ s24 = .bool (seenB z1 m (z0 m) i) ∧ s25 = .bool (zeroB z1 m (z0 m) i) ∧ Below x2.heap.size x2 wi) (fun _ _ x _ => n1 - (intOf x).toNat)
              case atStart => exact ⟨0, Nat.zero_le _, rfl, rfl, rfl, Below.refl _ _⟩
              case round =>
                obtain ⟨i, hi, rfl, rfl, rfl, hb⟩ := hrel
                by_cases hil : i < n1
                · obtain ⟨u4, u5, u6⟩ := H14.out i hil
                  have hPx : P < x2.heap.size := by have := HT2.out.lt; omega
                  have e0' := (hb.cell (p := ⟨b1, o1 + i * 3, none⟩) (by show b1 < _; omega)).trans ((HT2.out.bel.cell (p := ⟨b1, o1 + i * 3, none⟩) u5).trans (u6 0 (by omega)))
                  have e1' := (hb.cell (p := ⟨b1, o1 + i * 3 + 1, none⟩) (by show b1 < _; omega)).trans ((HT2.out.bel.cell (p := ⟨b1, o1 + i * 3 + 1, none⟩) u5).trans (u6 1 (by omega)))
                  have e2' := (hb.cell (p := ⟨b1, o1 + i * 3 + 2, none⟩) (by show b1 < _; omega)).trans ((HT2.out.bel.cell (p := ⟨b1, o1 + i * 3 + 2, none⟩) u5).trans (u6 2 (by omega)))
                  obtain ⟨y0, hy0⟩ : ∃ y, z1 i 0 = y := ⟨_, rfl⟩
                  obtain ⟨y1, hy1⟩ : ∃ y, z1 i 1 = y := ⟨_, rfl⟩
                  obtain ⟨y2, hy2⟩ : ∃ y, z1 i 2 = y := ⟨_, rfl⟩
                  rw [hy0] at e0'
                  rw [hy1] at e1'
                  rw [hy2] at e2'
                  obtain ⟨wy, ey⟩ : ∃ wy, wr.alloc (.cells #[.int .i64 y0, .int .i64 y1, .int .i64 y2] 36) = wy := ⟨_, rfl⟩
                  obtain ⟨X, hX⟩ : ∃ X, wr.heap.size = X := ⟨_, rfl⟩
                  have BY : Below x2.heap.size x2 wy := ey ▸ hb.alloc hb.size _
                  have g0 : wy.cell? ⟨X, 0, none⟩ = some (.int .i64 y0) := by rw [← ey, World.cell?_alloc_at _ _ _ _ hX.symm]; rfl
                  have g1 : wy.cell? ⟨X, 1, none⟩ = some (.int .i64 y1) := by rw [← ey, World.cell?_alloc_at _ _ _ _ hX.symm]; rfl
                  have g2 : wy.cell? ⟨X, 2, none⟩ = some (.int .i64 y2) := by rw [← ey, World.cell?_alloc_at _ _ _ _ hX.symm]; rfl
                  have g3 := (BY.cell (p := ⟨P, m, none⟩) hPx).trans q3
                  have HY : Hid (∀ q, Below x2.heap.size x2 (wy.drewN q)) := fun q => ⟨BY.os, BY.tape, BY.output, BY.size, BY.block⟩
                  cases u4
                  clear u6 BY hb
                  by_cases k0 : y0 = (m : Int)
                  · by_cases k2 : y2 = z0 m
                    · by_cases k1 : y1 = 0
                      · have HS : Hid (seenB z1 m (z0 m) (i + 1) = true ∧ zeroB z1 m (z0 m) (i + 1) = true) := seen_zero (by rw [hy0, k0]) (by rw [hy2, k2]) (by rw [hy1, k1])
                        subst k0 k1
                        rw [k2] at e2' ey g2
                        clear hy0 hy1 hy2 k2
                        go_wp2_with fail
                        go_quiet (fail)
                        go_wp2_with fail
                        go_roundw
                        case rel => exact ⟨i + 1, by omega, by go_num, by rw [HS.out.1], by rw [HS.out.2], HY.out _⟩
                        case measure => simp [intOf]; omega
                      · by_cases k3 : y1 = 1
                        · have HS : Hid (seenB z1 m (z0 m) (i + 1) = true ∧ zeroB z1 m (z0 m) (i + 1) = zeroB z1 m (z0 m) i) := seen_one (by rw [hy0, k0]) (by rw [hy2, k2]) (by rw [hy1, k3])
                          subst k0 k3
                          rw [k2] at e2' ey g2
                          clear hy0 hy1 hy2 k2 k1
                          go_wp2_with fail
                          go_quiet (fail)
                          go_wp2_with fail
                          go_roundw
                          case rel => exact ⟨i + 1, by omega, by go_num, by rw [HS.out.1], by rw [HS.out.2], HY.out _⟩
                          case measure => simp [intOf]; omega
                        · have HS : Hid (seenB z1 m (z0 m) (i + 1) = seenB z1 m (z0 m) i ∧ zeroB z1 m (z0 m) (i + 1) = zeroB z1 m (z0 m) i) := seen_no (by rw [hy1]; rintro ⟨_, _, h | h⟩; exact k1 h; exact k3 h)
                          have k1' : (y1 == 0) = false := by simpa using k1
                          have k3' : (y1 == 1) = false := by simpa using k3
                          subst k0
                          rw [k2] at e2' ey g2
                          clear hy0 hy1 hy2 k2 k1 k3
                          go_wp2_with fail
                          go_quiet (fail)
                          go_wp2_with fail
                          go_roundw
                          case rel => exact ⟨i + 1, by omega, by go_num, by rw [HS.out.1], by rw [HS.out.2], HY.out _⟩
                          case measure => simp [intOf]; omega
                    · have HS : Hid (seenB z1 m (z0 m) (i + 1) = seenB z1 m (z0 m) i ∧ zeroB z1 m (z0 m) (i + 1) = zeroB z1 m (z0 m) i) := seen_no (by rw [hy2]; rintro ⟨_, h, _⟩; exact k2 h)
                      have k2' : (y2 == z0 m) = false := by simpa using k2
                      subst k0
                      clear hy0 hy1 hy2 k2
                      go_wp2_with fail
                      go_quiet (fail)
                      go_wp2_with fail
                      go_roundw
                      case rel => exact ⟨i + 1, by omega, by go_num, by rw [HS.out.1], by rw [HS.out.2], HY.out _⟩
                      case measure => simp [intOf]; omega
                  · have HS : Hid (seenB z1 m (z0 m) (i + 1) = seenB z1 m (z0 m) i ∧ zeroB z1 m (z0 m) (i + 1) = zeroB z1 m (z0 m) i) := seen_no (by rw [hy0]; rintro ⟨h, _⟩; exact k0 h)
                    have k0' : (y0 == (m : Int)) = false := by simpa using k0
                    clear hy0 hy1 hy2 k0
                    go_wp2_with fail
                    go_quiet (fail)
                    go_wp2_with fail
                    go_roundw
                    case rel => exact ⟨i + 1, by omega, by go_num, by rw [HS.out.1], by rw [HS.out.2], HY.out _⟩
                    case measure => simp [intOf]; omega
                · obtain rfl : i = n1 := by omega
                  have T3 := HT2.out.on hb
                  have r1 := T3.r2.cell m hlt
                  have r2 := T3.r2.free m hlt
                  obtain ⟨x3, y3⟩ : ∃ x3, wr.setCell ⟨P + 1, m, none⟩ (.int .i64 1) = x3 := ⟨_, rfl⟩
                  have HX3 : Hid (∀ h2', (h2' = h2 ∨ h2' = upd h2 m (.int .i64 1)) → h2' m = .int .i64 (wantM n0 z0 i z1 m) → GotW n0 z0 i z1 (m + 1) (upd (upd h1 m (.int .i64 (-1))) m (.int .i64 (z0 m))) h2') := by
                    intro h2' hh hv
                    refine HG.out.step (by rw [upd_same, HW.out]) (fun q hq => by rw [upd_ne _ _ _ _ hq, upd_ne _ _ _ _ hq]) hv (fun q hq => ?_)
                    rcases hh with rfl | rfl
                    · rfl
                    · exact upd_ne _ _ _ _ hq
                  have hwm : wantM n0 z0 i z1 m = if (seenB z1 m (z0 m) i && !zeroB z1 m (z0 m) i) = true then 1 else 0 := by
                    rw [wantM, HW.out]
                    simp [hz]
                  have hc2 := HG.out.c m (Nat.le_refl _) hlt
                  cases hs1 : seenB z1 m (z0 m) i with
                  | true =>
                    cases hs2 : zeroB z1 m (z0 m) i with
                    | false =>
                      have HZ : Hid (∃ g1 g2, Two w4 P x3 g1 g2 ∧ GotW n0 z0 i z1 (m + 1) g1 g2) := ⟨_, _, y3 ▸ T3.set2 hlt _, HX3.out _ (.inr rfl) (by rw [upd_same, hwm, hs1, hs2]; rfl)⟩
                      clear T3 HX3 hwm hc2 hb hs1 hs2
                      go_wp2_with fail
                      go_roundw
                      case rel => exact ⟨m + 1, by omega, by go_num, HZ.out⟩
                      case measure => simp [intOf]; omega
                    | true =>
                      have HZ : Hid (∃ g1 g2, Two w4 P wr g1 g2 ∧ GotW n0 z0 i z1 (m + 1) g1 g2) := ⟨_, _, T3, HX3.out _ (.inl rfl) (by rw [hc2, hwm, hs1, hs2]; rfl)⟩
                      clear T3 HX3 hwm hc2 hb hs1 hs2 y3
                      go_wp2_with fail
                      go_roundw
                      case rel => exact ⟨m + 1, by omega, by go_num, HZ.out⟩
                      case measure => simp [intOf]; omega
                  | false =>
                    have HZ : Hid (∃ g1 g2, Two w4 P wr g1 g2 ∧ GotW n0 z0 i z1 (m + 1) g1 g2) := ⟨_, _, T3, HX3.out _ (.inl rfl) (by rw [hc2, hwm, hs1]; rfl)⟩
                    clear T3 HX3 hwm hc2 hb hs1 y3
                    go_wp2_with fail
                    go_roundw
                    case rel => exact ⟨m + 1, by omega, by go_num, HZ.out⟩
                    case measure => simp [intOf]; omega
            · have HZ : Hid (∃ g1 g2, Two w4 P x1 g1 g2 ∧ GotW n0 z0 n1 z1 (m + 1) g1 g2) := by
                have hW : wantC n0 z0 m = -1 := by rw [wantC, if_neg (fun hh => hz hh.2)]
                exact ⟨_, _, T1, hG.step (by rw [upd_same, hW]) (fun q hq => upd_ne _ _ _ _ hq) (by rw [hG.c m (Nat.le_refl _) hlt, wantM, hW]; rfl) (fun q hq => rfl)⟩
              have hzd : decide (0 ≤ z0 m) = false := decide_eq_false hz
              cases u1
              clear T1 hT hG hG' u3 hz
              go_wp2_with fail
              go_roundw
              case rel => exact ⟨m + 1, by omega, by go_num, HZ.out⟩
              case measure => simp [intOf]; omega
          · have HZ : Hid (∃ g1 g2, Two w4 P x1 g1 g2 ∧ GotW n0 z0 n1 z1 (m + 1) g1 g2) := by
              have hW : wantC n0 z0 m = -1 := by rw [wantC, if_neg (fun hh => hmn hh.1)]
              exact ⟨_, _, T1, hG.step (by rw [upd_same, hW]) (fun q hq => upd_ne _ _ _ _ hq) (by rw [hG.c m (Nat.le_refl _) hlt, wantM, hW]; rfl) (fun q hq => rfl)⟩
            have hmn' : (n0 : Int) ≤ (m : Int) := by omega
            clear T1 hT hG hG' hmn
            go_wp2_with fail
            go_roundw
            case rel => exact ⟨m + 1, by omega, by go_num, HZ.out⟩
            case measure => simp [intOf]; omega
        · have hm2 : m = 2 := by omega
          have hge : (2 : Int) ≤ (m : Int) := by omega
          rw [hm2] at hG
          clear hm2 hm hlt
          have B6 : Below w.heap.size w wr := Below.after HB4.out (by rw [hPP]; exact hT.bel) HB4.out.size
          have M6 : Mem d wr st := HM4.out.below (by rw [hPP]; exact hT.bel)
          have hv : ∀ j, j < 2 → st.vals j = wantM n0 z0 n1 z1 j := fun j hj => HP4.out.want j hj
          have hk : ∀ j, j < 2 → st.ctrs j = wantC n0 z0 j := fun j hj => HP4.out.ctr j hj
          have hout := HP4.out.outW
          have HCf : Hid (∀ j : Nat, j < 2 → ∀ q, Calls Ybaf.prog 9 #[.pointer (some ⟨d.C, 0, none⟩), .int .i64 j] (wr.drewN q) fun e w' => e = .returned (.tuple #[.int .i64 (wantM n0 z0 n1 z1 j), .int .i64 (wantC n0 z0 j)]) ∧ ∃ q', w' = wr.drewN q') := fun j hj q =>
            (confirmed_any d st j (wr.drewN q) (by omega) (M6.drewN q)).mono fun e w' ⟨q', he, hw⟩ => ⟨by rw [he, hv j hj, hk j hj], q + q', by rw [hw, World.drewN_drewN]⟩
          have HOut : Hid (∀ q, Calls Ybaf.prog 10 #[.pointer (some ⟨d.C, 0, none⟩)] (wr.drewN q) fun e w' => e = .returned (.int .i64 (wantM n0 z0 n1 z1 (if wantC n0 z0 1 < wantC n0 z0 0 then 1 else 0))) ∧ w' = wr.drewN q) := fun q =>
            (output_any d st (wr.drewN q) (M6.drewN q)).mono fun e w' ⟨he, hw⟩ => ⟨by rw [he, hout], hw⟩
          have HSi : Hid (∀ q, Calls Ybaf.prog 11 #[.slice p0 n0 n0, .slice a0 n0 c0] (wr.drewN q) fun e w' => ∃ q', e = .returned (.bool true) ∧ w' = (wr.drewN q).drewN q') := fun q =>
            sameints_any z0 p0 a0 n0 n0 c0 gC b0 0 o0 (wr.drewN q) hn0 hp0 (fun i hi => ⟨(HgC4.out i hi).1, by rw [Nat.zero_add]; exact (hT.bel.cell (p := ⟨gC, i, none⟩) (HgC4.out i hi).2.1).trans (HgC4.out i hi).2.2⟩)
              (fun i hi => ⟨(H04.out i hi).1, (hT.bel.cell (p := ⟨b0, o0 + i, none⟩) (H04.out i hi).2.1).trans (H04.out i hi).2.2⟩)
          have HSc : Hid (∀ q, Calls Ybaf.prog 12 #[.slice p1 n1 n1, .slice a1 n1 c1] (wr.drewN q) fun e w' => ∃ q', e = .returned (.bool true) ∧ w' = (wr.drewN q).drewN q') := fun q =>
            sameclaims_any z1 p1 a1 n1 n1 c1 gE b1 0 o1 (wr.drewN q) hn1 hp1 (fun i hi => ⟨(HgE4.out i hi).1, fun k hk => by rw [Nat.zero_add]; exact (hT.bel.cell (p := ⟨gE, i * 3 + k, none⟩) (HgE4.out i hi).2.1).trans ((HgE4.out i hi).2.2 k hk)⟩)
              (fun i hi => ⟨(H14.out i hi).1, fun k hk => (hT.bel.cell (p := ⟨b1, o1 + i * 3 + k, none⟩) (H14.out i hi).2.1).trans ((H14.out i hi).2.2 k hk)⟩)
          have HB6 : Hid (∀ q, Below w.heap.size w (wr.drewN q)) := fun q => ⟨B6.os, B6.tape, B6.output, B6.size, B6.block⟩
          have HCl : Hid (∀ j, j < 2 → wr.cell? ⟨P, j, none⟩ = some (.int .i64 (wantC n0 z0 j)) ∧ wr.cell? ⟨P + 1, j, none⟩ = some (.int .i64 (wantM n0 z0 n1 z1 j))) := fun j hj =>
            ⟨(hT.r1.cell j hj).trans (by rw [hG.a j hj]), (hT.r2.cell j hj).trans (by rw [hG.b j hj])⟩
          clear B6 M6 hv hk hout hT hG HB4 HM4 HP4 HgC4 HgE4 H04 H14 hPP
          go_wp2_with fail
          go_loopw [28, 29, 30] (fun x _ _ wx => ∃ m : Nat, m ≤ 2 ∧ x = .int .i64 m ∧ ∃ q, wx = wr.drewN q) (fun x _ _ _ => 2 - (intOf x).toNat)
          case atStart => exact ⟨0, Nat.zero_le _, rfl, 0, rfl⟩
          case round =>
            obtain ⟨m, hm3, rfl, q, rfl⟩ := hrel
            by_cases hlt3 : m < 2
            · have HC := HCf.out m hlt3 q
              obtain ⟨l1, l2⟩ := HCl.out m hlt3
              have n1' : (wantM n0 z0 n1 z1 m != wantM n0 z0 n1 z1 m) = false := by simp
              have n2' : (wantC n0 z0 m != wantC n0 z0 m) = false := by simp
              go_wp2_with fail
              refine HC.mono ?_
              rintro e wx ⟨rfl, q', hwx⟩
              rw [hwx]
              clear hwx wx HC
              go_wp2_with fail
              go_roundw
              case rel => exact ⟨m + 1, by omega, by go_num, _, rfl⟩
              case measure => simp [intOf]; omega
            · obtain ⟨l1, l2⟩ := HCl.out 0 (by omega)
              obtain ⟨l3, l4⟩ := HCl.out 1 (by omega)
              have HO := HOut.out
              by_cases hpk : wantC n0 z0 1 < wantC n0 z0 0
              · simp only [if_pos hpk] at HO
                have nn : (wantM n0 z0 n1 z1 1 != wantM n0 z0 n1 z1 1) = false := by simp
                go_wp2_with fail
                go_quiet (first | (go_at_call 10; refine quiet_in_two (HO _)))
                go_wp2_with fail
                refine (HSi.out _).mono ?_
                rintro e wx ⟨q2, rfl, hwx⟩
                rw [World.drewN_drewN] at hwx
                rw [hwx]
                clear hwx wx
                go_wp2_with fail
                refine (HSc.out _).mono ?_
                rintro e wx ⟨q3, rfl, hwx⟩
                rw [World.drewN_drewN] at hwx
                rw [hwx]
                clear hwx wx
                go_wp2_with fail
                go_ret
                exact ⟨rfl, HB6.out _⟩
              · simp only [if_neg hpk] at HO
                have nn : (wantM n0 z0 n1 z1 0 != wantM n0 z0 n1 z1 0) = false := by simp
                have hpk' : wantC n0 z0 0 ≤ wantC n0 z0 1 := by omega
                go_wp2_with fail
                go_quiet (first | (go_at_call 10; refine quiet_in_two (HO _)))
                go_wp2_with fail
                refine (HSi.out _).mono ?_
                rintro e wx ⟨q2, rfl, hwx⟩
                rw [World.drewN_drewN] at hwx
                rw [hwx]
                clear hwx wx
                go_wp2_with fail
                refine (HSc.out _).mono ?_
                rintro e wx ⟨q3, rfl, hwx⟩
                rw [World.drewN_drewN] at hwx
                rw [hwx]
                clear hwx wx
                go_wp2_with fail
                go_ret
                exact ⟨rfl, HB6.out _⟩
end Go.Proofs.YbulkcwpuFmt
