/-
  'LawS4908AIgnored' (function 4): what the row says of it; the told and tied card.
-/
import Derived.Test.YbulkcwpuFmtOpen
import Derived.Test.YbulkcwpuFmtIgnWalk
namespace Go.Proofs.YbulkcwpuFmt
open Go.ChangeShapes Go.WideShapes Go.ChangeAt Go.RowKit Go.Deep
open Go.Extern.Stop Go.Stop Go.Extern
set_option linter.unusedVariables false

theorem u8_bd {n : Int} (h : (Lit.int .u8 n).wf = true) : 0 ≤ n ∧ n < 256 := by
  simp [Lit.wf, IntKind.min, IntKind.max, IntKind.signed, IntKind.bits] at h
  omega
theorem u16_bd {n : Int} (h : (Lit.int .u16 n).wf = true) : 0 ≤ n ∧ n < 65536 := by
  simp [Lit.wf, IntKind.min, IntKind.max, IntKind.signed, IntKind.bits] at h
  omega

set_option maxRecDepth 20000 in
set_option maxHeartbeats 800000 in
theorem ign_long (nn ss ff kd far : Int) (inp : Bool) (iv ic : Int) (a0 a1 : Option Addr) (n0 c0 n1 c1 : Nat) (w : World) (h : ¬ (n0 ≤ 1024 ∧ n1 ≤ 1024)) :
    Calls Ybaf.prog 4 #[.int .u8 nn, .int .u8 ss, .int .u8 ff, .int .u8 kd, .int .u16 far, .bool inp, .slice a0 n0 c0, .slice a1 n1 c1, .int .i64 iv, .int .i64 ic] w fun e w' => e = .returned (.bool true) ∧ Below w.heap.size w w' := by
  by_cases h0 : n0 ≤ 1024
  · have e0 : decide ((1024 : Int) < (n0 : Int)) = false := decide_eq_false (by omega)
    have e1 : decide ((1024 : Int) < (n1 : Int)) = true := decide_eq_true (by omega)
    go_enter Ybaf.func4, Ybaf.ntmps4
    go_wp2_with fail
    go_ret
    exact ⟨rfl, Below.refl _ _⟩
  · have e0 : decide ((1024 : Int) < (n0 : Int)) = true := decide_eq_true (by omega)
    go_enter Ybaf.func4, Ybaf.ntmps4
    go_wp2_with fail
    go_ret
    exact ⟨rfl, Below.refl _ _⟩

theorem ign_door (os : Os) (args : Array Value) : laidMetH Ybaf.prog Rows.lawS4908AIgnoredRow.laid ((World.doorLaid Ybaf.prog 14 os).forCall (fun _ _ => 0) ⟨#[], args, []⟩).memory :=
  laidMetH_of_parts3 (fuel := 8) (laidMet_of_run' 8 (by kernel_rfl) (by kernel_rfl)) (by kernel_rfl) (by kernel_rfl)

set_option maxRecDepth 100000 in
theorem ign_lifted (os : Os) (started : os.Started) (H : Type) (enc : TypeId × Value → H) :
    ReturnsInTold none {} Ybaf.checked os 4 .any Input.okWide ((OpenSpec.ofChange Rows.lawS4908AIgnoredSpec).preRow enc Ybaf.prog Ybaf.f4 [] false Rows.lawS4908AIgnoredRow.laid) (fun F => ((OpenSpec.ofChange Rows.lawS4908AIgnoredSpec).at F).post enc Ybaf.prog Ybaf.f4 false true false false) (aloneAtReturn Ybaf.prog) nothingAlways := by
  refine returnsInTold_of_row (C := Ybaf.checked) (s := OpenSpec.ofChange Rows.lawS4908AIgnoredSpec) (by kernel_rfl) own started (by kernel_rfl) Ybaf.func4
    (OpenSpec.witness_stopped_at (enc := enc) (C := Ybaf.checked) false (World.doorLaid Ybaf.prog 14 os) #[.int .u8 0, .int .u8 0, .int .u8 0, .int .u8 0, .int .u16 0, .bool false, .slice none 0 0, .slice none 0 0, .int .i64 0, .int .i64 0] rfl (by kernel_rfl) (by kernel_rfl) (by kernel_rfl)
      (OpenSpec.preRow_of_B rfl 8 (by kernel_rfl) (by kernel_rfl) (ign_door os _))) ?_
  intro F W base args ds gs before _ hF hval0 hW _ _ _ hL _
  have hval : ∀ (j : Nat) t v, Ybaf.f4.params[j]? = some t → args[j]? = some v → Value.okWide Ybaf.prog W .any base t v := hval0
  have hW' := hW
  obtain ⟨p, q, hA0, hV, rfl, hfz, hnd⟩ := hW
  have hA : DataW.TrodAll enc Ybaf.prog W 0 (fun _ => true) true Ybaf.f4.params.toList args.toList ds p := hA0
  rw [Ybaf.params4] at hA hval
  obtain ⟨v0, vs0, d0, ds0, p0, q0, hargs, rfl, rfl, h0, r0⟩ := trodAll_cons hA
  obtain ⟨v1, vs1, d1, ds1, p1, q1, rfl, rfl, rfl, h1, r1⟩ := trodAll_cons r0
  obtain ⟨v2, vs2, d2, ds2, p2, q2, rfl, rfl, rfl, h2, r2⟩ := trodAll_cons r1
  obtain ⟨v3, vs3, d3, ds3, p3, q3, rfl, rfl, rfl, h3, r3⟩ := trodAll_cons r2
  obtain ⟨v4, vs4, d4, ds4, p4, q4, rfl, rfl, rfl, h4, r4⟩ := trodAll_cons r3
  obtain ⟨v5, vs5, d5, ds5, p5, q5, rfl, rfl, rfl, h5, r5⟩ := trodAll_cons r4
  obtain ⟨v6, vs6, d6, ds6, p6, q6, rfl, rfl, rfl, h6, r6⟩ := trodAll_cons r5
  obtain ⟨v7, vs7, d7, ds7, p7, q7, rfl, rfl, rfl, h7, r7⟩ := trodAll_cons r6
  obtain ⟨v8, vs8, d8, ds8, p8, q8, rfl, rfl, rfl, h8, r8⟩ := trodAll_cons r7
  obtain ⟨v9, vs9, d9, ds9, p9, q9, rfl, rfl, rfl, h9, r9⟩ := trodAll_cons r8
  obtain ⟨rfl, rfl, rfl⟩ := trodAll_nil r9
  obtain rfl : args = #[v0, v1, v2, v3, v4, v5, v6, v7, v8, v9] := by cases args; simp_all
  obtain ⟨rfl, rfl⟩ := trodVars_none hV
  obtain ⟨a0, rfl, rfl, rfl, w0⟩ := open_int Ybaf.underlying5 (hval 0 5 v0 rfl rfl) h0
  obtain ⟨a1, rfl, rfl, rfl, w1⟩ := open_int Ybaf.underlying5 (hval 1 5 v1 rfl rfl) h1
  obtain ⟨a2, rfl, rfl, rfl, w2⟩ := open_int Ybaf.underlying5 (hval 2 5 v2 rfl rfl) h2
  obtain ⟨a3, rfl, rfl, rfl, w3⟩ := open_int Ybaf.underlying5 (hval 3 5 v3 rfl rfl) h3
  obtain ⟨a4, rfl, rfl, rfl, w4⟩ := open_int Ybaf.underlying43 (hval 4 43 v4 rfl rfl) h4
  obtain ⟨a5, rfl, rfl, rfl⟩ := open_bool Ybaf.underlying4 (hval 5 4 v5 rfl rfl) h5
  obtain ⟨a6, n6, c6, rfl⟩ := okWide_slice Ybaf.underlying22 (hval 6 22 v6 rfl rfl)
  obtain ⟨a7, n7, c7, rfl⟩ := okWide_slice Ybaf.underlying23 (hval 7 23 v7 rfl rfl)
  obtain ⟨a8, rfl, rfl, rfl, w8⟩ := open_int Ybaf.underlying2 (hval 8 2 v8 rfl rfl) h8
  obtain ⟨a9, rfl, rfl, rfl, w9⟩ := open_int Ybaf.underlying3 (hval 9 3 v9 rfl rfl) h9
  have k6 := h6
  have k7 := h7
  have lt6 : ∀ x ∈ p6, x.block < W.heap.size := by obtain ⟨m, hm⟩ := k6; exact DataW.trod_lt m _ _ _ hm
  have lt7 : ∀ x ∈ p7, x.block < W.heap.size := by obtain ⟨m, hm⟩ := k7; exact DataW.trod_lt m _ _ _ hm
  obtain ⟨b6, o6, z6, nil6, in6⟩ : ∃ (b o : Nat) (z : Nat → Int), (a6 = none → n6 = 0) ∧ ∀ i, i < n6 → a6 = some ⟨b, o, none⟩ ∧ b < W.heap.size ∧ W.cell? ⟨b, o + i, none⟩ = some (.int .i64 (z i)) := by
    obtain ⟨fuel, hf⟩ := h6
    exact ints_in hf
  obtain ⟨b7, o7, z7, nil7, in7⟩ : ∃ (b o : Nat) (z : Nat → Nat → Int), (a7 = none → n7 = 0) ∧ ∀ i, i < n7 → a7 = some ⟨b, o, none⟩ ∧ b < W.heap.size ∧ ∀ k, k < 3 → W.cell? ⟨b, o + i * 3 + k, none⟩ = some (.int .i64 (z i k)) := by
    obtain ⟨fuel, hf⟩ := h7
    exact claims_in hf
  clear hA0 hval0
  have hwalk : Calls Ybaf.prog 4 #[.int .u8 a0, .int .u8 a1, .int .u8 a2, .int .u8 a3, .int .u16 a4, .bool a5, .slice a6 n6 c6, .slice a7 n7 c7, .int .i64 a8, .int .i64 a9] W fun e w' => e = .returned (.bool true) ∧ Below W.heap.size W w' := by
    by_cases hlen : n6 ≤ 1024 ∧ n7 ≤ 1024
    · exact ign_walk a0 a1 a2 a3 a4 a5 a8 a9 a6 a7 n6 c6 n7 c7 b6 o6 b7 o7 z6 z7 W (u8_bd w0) (u8_bd w1) (u8_bd w2) (u8_bd w3) (u16_bd w4) nil6 in6 nil7 in7 hlen.1 hlen.2
    · exact ign_long a0 a1 a2 a3 a4 a5 a8 a9 a6 a7 n6 c6 n7 c7 W hlen
  refine hwalk.mono fun e W' ⟨he, bel⟩ => ?_
  subst he
  exact ⟨_, rfl, _, _, _, [], _, [], hW', trodAll_mk1 (shut_bool Ybaf.underlying4 _),
    (trodAll_cons_mk (shut_int Ybaf.underlying5 w0) (trodAll_cons_mk (shut_int Ybaf.underlying5 w1) (trodAll_cons_mk (shut_int Ybaf.underlying5 w2) (trodAll_cons_mk (shut_int Ybaf.underlying5 w3) (trodAll_cons_mk (shut_int Ybaf.underlying43 w4) (trodAll_cons_mk (shut_bool Ybaf.underlying4 _)
      (trodAll_cons_mk (Below.trod laidOut (by kernel_rfl) (of_decide_eq_true (by kernel_rfl)) k6 bel lt6) (trodAll_cons_mk (Below.trod laidOut (by kernel_rfl) (of_decide_eq_true (by kernel_rfl)) k7 bel lt7)
        (trodAll_cons_mk (shut_int Ybaf.underlying2 w8) (trodAll_cons_mk (shut_int Ybaf.underlying3 w9) trodAll_mk0)))))))))), rfl, bel.frame _, fun h => by cases h⟩

theorem laidOutP : laidOutB Ybaf.pinned.checked.prog = true := by kernel_rfl
theorem stops : Ybaf.pinned.checked.prog.stops = ["fmt.Sprintf"] := by kernel_rfl
theorem stopKnobs : Ybaf.pinned.checked.prog.stopKnobs = [] := by kernel_rfl
theorem quiet (os : Os) : Stop.quiet Ybaf.pinned.checked.prog os := by
  intro k hk
  rw [stopKnobs] at hk
  cases hk

/-- THE TOLD AND TIED CARD. -/
theorem ignored_proved : Rows.LawS4908AIgnoredToldSaid :=
  Claim7.holds_of_told_tied_any_at .later 4 Ybaf.f4 "fmt.Sprintf" [] [] _ _ _ [.data] true (by kernel_rfl) rfl rfl rfl laidOutP (by kernel_rfl) rfl ⟨rfl, rfl, rfl, rfl, rfl, rfl, rfl⟩ rfl rfl (by kernel_rfl) (by kernel_rfl) Ybaf.func4 (by kernel_rfl)
    (of_decide_eq_true (by kernel_rfl)) (of_decide_eq_true (by kernel_rfl)) stops.symm rfl stopKnobs.symm (by kernel_rfl)
    (by kernel_rfl) (by kernel_rfl) (by kernel_rfl) (by kernel_rfl) (by kernel_rfl) (by kernel_rfl) (by kernel_rfl) (by kernel_rfl) (by kernel_rfl) rfl (by kernel_rfl) rfl rfl
    rfl rfl
    rfl (by kernel_rfl) (by kernel_rfl) (by kernel_rfl) (by decide) (by kernel_rfl) lawS4908AIgnored_row_tie
    (OpenClaim.moreEntering_of (by kernel_rfl) (by kernel_rfl) (by kernel_rfl) (by kernel_rfl) (by kernel_rfl) (by kernel_rfl) (by kernel_rfl) (by kernel_rfl) (by kernel_rfl) (by kernel_rfl))
    ⟨_, WideRow.started_initial, quiet _⟩
    (fun os started _ H enc _ => ign_lifted os started H enc)
#print axioms ignored_proved
end Go.Proofs.YbulkcwpuFmt
