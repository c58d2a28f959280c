/-
  The walk of 'LawS4908AIgnored' (function 4), the slices short.
-/
import Derived.Test.YbulkcwpuFmtCpy
import Derived.Deep.CutBlock
import Derived.Deep.DeepCutAuto
namespace Go.Proofs.YbulkcwpuFmt
open Go.RowKit Go.Lib
set_option linter.unusedVariables false

theorem neq_claim (W : World) (a b c : Int) : (binOp .neq 31 (.agg #[.int .i64 a, .int .i64 b, .int .i64 c]) (.agg #[.int .i64 a, .int .i64 b, .int .i64 c])).run Ybaf.prog W = .ok (.bool false) W := by
  go_simp

set_option maxRecDepth 20000 in
set_option maxHeartbeats 3200000 in
theorem ign_walk (nn ss ff kd far : Int) (inp : Bool) (iv ic : Int) (a0 a1 : Option Addr) (n0 c0 n1 c1 b0 o0 b1 o1 : Nat) (z0 : Nat → Int) (z1 : Nat → Nat → Int) (w : World)
    (hnn : 0 ≤ nn ∧ nn < 256) (hss : 0 ≤ ss ∧ ss < 256) (hff : 0 ≤ ff ∧ ff < 256) (hkd : 0 ≤ kd ∧ kd < 256) (hfar : 0 ≤ far ∧ far < 65536)
    (hnil0 : a0 = none → n0 = 0) (hc0 : ∀ i, i < n0 → a0 = some ⟨b0, o0, none⟩ ∧ b0 < w.heap.size ∧ w.cell? ⟨b0, o0 + i, none⟩ = some (.int .i64 (z0 i)))
    (hnil1 : a1 = none → n1 = 0) (hc1 : ∀ i, i < n1 → a1 = some ⟨b1, o1, none⟩ ∧ b1 < w.heap.size ∧ ∀ k, k < 3 → w.cell? ⟨b1, o1 + i * 3 + k, none⟩ = some (.int .i64 (z1 i k)))
    (hn0 : n0 ≤ 1024) (hn1 : n1 ≤ 1024) :
    Calls Ybaf.prog 4 #[.int .u8 nn, .int .u8 ss, .int .u8 ff, .int .u8 kd, .int .u16 far, .bool inp, .slice a0 n0 c0, .slice a1 n1 c1, .int .i64 iv, .int .i64 ic] w fun e w' => e = .returned (.bool true) ∧ Below w.heap.size w w' := by
  have e0 : decide ((1024 : Int) < (n0 : Int)) = false := decide_eq_false (by omega)
  have e1 : decide ((1024 : Int) < (n1 : Int)) = false := decide_eq_false (by omega)
  obtain ⟨N, hN⟩ : ∃ N : Nat, 1 + nn % 6 = (N : Int) := ⟨(1 + nn % 6).toNat, by omega⟩
  have hNb : 1 ≤ N ∧ N ≤ 6 := by omega
  obtain ⟨hN1, hN6⟩ := hNb
  obtain ⟨S, hS⟩ : ∃ S : Nat, ss % (N : Int) = (S : Int) := ⟨(ss % (N : Int)).toNat, (Int.toNat_of_nonneg (Int.emod_nonneg _ (by omega))).symm⟩
  obtain ⟨F, hF⟩ : ∃ F : Nat, ff % (N : Int) = (F : Int) := ⟨(ff % (N : Int)).toNat, (Int.toNat_of_nonneg (Int.emod_nonneg _ (by omega))).symm⟩
  have hSN : S < N := by have := Int.emod_lt_of_pos ss (show (0 : Int) < N by omega); omega
  have hFN : F < N := by have := Int.emod_lt_of_pos ff (show (0 : Int) < N by omega); omega
  have hneN : (N : Int) ≠ 0 := by omega
  obtain ⟨nn0, nn1⟩ := hnn
  obtain ⟨ss0, ss1⟩ := hss
  obtain ⟨ff0, ff1⟩ := hff
  obtain ⟨kd0, kd1⟩ := hkd
  obtain ⟨far0, far1⟩ := hfar
  have H0 : Hid (∀ i, i < n0 → a0 = some ⟨b0, o0, none⟩ ∧ b0 < w.heap.size ∧ w.cell? ⟨b0, o0 + i, none⟩ = some (.int .i64 (z0 i))) := hc0
  have H1 : Hid (∀ i, i < n1 → a1 = some ⟨b1, o1, none⟩ ∧ b1 < w.heap.size ∧ ∀ k, k < 3 → w.cell? ⟨b1, o1 + i * 3 + k, none⟩ = some (.int .i64 (z1 i k))) := hc1
  clear hc0 hc1
  obtain ⟨I, hI⟩ : ∃ I : Int, I = if inp then 1 else 0 := ⟨_, rfl⟩
  have hI01 : I = 0 ∨ I = 1 := by rw [hI]; cases inp <;> simp
  obtain ⟨fr, hfr⟩ : ∃ fr : Int, fr = if kd % 3 = 0 then (S : Int) else if kd % 3 = 1 then -1 - far else (N : Int) + far := ⟨_, rfl⟩
  have hfr' : fr < 0 ∨ (N : Int) ≤ fr ∨ fr = S := by
    rw [hfr]; split
    · exact .inr (.inr rfl)
    · split <;> omega
  go_enter Ybaf.func4, Ybaf.ntmps4
  go_upto_block 0 with fail
  go_cut [22, 23, 24] (fun s22 s23 s24 wc => s22 = .int .i64 S ∧ s23 = .int .i64 F ∧ s24 = .int .i64 fr ∧ wc = w)
  case first =>
    by_cases k0 : kd % 3 = 0
    · have k0' : (kd % 3 == 0) = true := by simpa using k0
      rw [if_pos k0] at hfr
      go_wp2_with fail
      go_meet
      case rel => exact ⟨by first | rfl | exact congrArg _ hS, by first | rfl | exact congrArg _ hF, by rw [hfr]; first | rfl | exact congrArg _ hS, rfl⟩
    · have k0' : (kd % 3 == 0) = false := by simpa using k0
      rw [if_neg k0] at hfr
      by_cases k1 : kd % 3 = 1
      · have k1' : (kd % 3 == 1) = true := by simpa using k1
        rw [if_pos k1] at hfr
        go_wp2_with fail
        go_meet
        case rel => exact ⟨by first | rfl | exact congrArg _ hS, by first | rfl | exact congrArg _ hF, by rw [hfr], rfl⟩
      · have k1' : (kd % 3 == 1) = false := by simpa using k1
        rw [if_neg k1] at hfr
        go_wp2_with fail
        go_meet
        case rel => exact ⟨by first | rfl | exact congrArg _ hS, by first | rfl | exact congrArg _ hF, by rw [hfr], rfl⟩
  case rest =>
    obtain ⟨rfl, rfl, rfl, hwc⟩ := hcut
    rw [hwc]
    clear hwc wc
    clear hfr hS hF hN
    go_upto_if 69 with fail
    go_cut [25] (fun s25 wc' => s25 = .int .i64 I ∧ wc' = w)
    case first =>
      cases inp with
      | false =>
        go_wp2_with fail
        go_meet
        case rel => exact ⟨by rw [hI]; rfl, rfl⟩
      | true =>
        go_wp2_with fail
        go_meet
        case rel => exact ⟨by rw [hI]; rfl, rfl⟩
    case rest =>
      obtain ⟨rfl, hwc2⟩ := hcut
      rw [hwc2]
      clear hwc2 wc hI
      go_wp2_with fail
      refine (new_ok N S F I w hN6 hN1 hFN hSN hI01).mono ?_
      rintro e wN ⟨d, rfl, hA, dn, ds, df, di, hB, hM⟩
      subst dn
      have dsS : (d.s : Int) = S := by rw [ds]
      obtain ⟨st, hst⟩ : ∃ st, st = newSt d := ⟨_, rfl⟩
      have hfew : ∀ j, st.few j = nilS := fun j => by rw [hst]; exact few_new d j
      rw [← hst] at hM
      clear hst
      obtain ⟨x1, x2, x3, x4, q, r, s, m1, m2, m3, m4, hFar, hB4, g1, g2, g3, g4, hC⟩ := four d st wN hM hN6
      have BX : Below w.heap.size w x4 := hB.trans ⟨hB4.os, hB4.tape, hB4.output, hB4.size, fun k hk => hB4.block k (Nat.lt_of_lt_of_le hk hB.size)⟩
      have hgp : w.heap.size ≤ wN.heap.size := hB.size
      obtain ⟨p, hp⟩ : ∃ p, wN.heap.size = p := ⟨_, rfl⟩
      rw [hp] at m1 hFar hC hgp
      have HX : Hid (Below w.heap.size w x4 ∧ ∃ g1 g2 g3 g4, Cpy d st p q r s x4 g1 g2 g3 g4 ∧ Got st 0 g1 g2 g3 g4) :=
        ⟨BX, g1, g2, g3, g4, hC, ⟨fun i h => absurd h (Nat.not_lt_zero _), fun i h => absurd h (Nat.not_lt_zero _), fun i h => absurd h (Nat.not_lt_zero _), fun i h => absurd h (by omega)⟩⟩
      have HFar : Hid (Far d p q r s) := hFar
      have HA : Hid (Apart d w.heap.size) := hA
      have HFW : Hid (∀ j, st.few j = nilS) := hfew
      clear BX hC hB4 hB hM hFar hA hp hfew
      go_wp2_with fail
      clear m1 m2 m3 m4
      go_loopw [31] (fun x wr => ∃ m : Nat, m ≤ d.n ∧ x = .int .i64 m ∧ Below w.heap.size w wr ∧ ∃ g1 g2 g3 g4, Cpy d st p q r s wr g1 g2 g3 g4 ∧ Got st m g1 g2 g3 g4) (fun x _ => d.n - (intOf x).toNat)
      case atStart => exact ⟨0, Nat.zero_le _, rfl, HX.out.1, HX.out.2⟩
      case round =>
        clear HX
        obtain ⟨m, hm, rfl, hbl, g1, g2, g3, g4, hC, hG⟩ := hrel
        by_cases hlt : m < d.n
        · have f := HFar.out
          have c6 := hC.mem.C.cell 6 (by omega)
          have v0 := hC.mem.V.cell m hlt
          have p1 := hC.rp.cell m hlt
          have p2 := hC.rp.free m hlt
          obtain ⟨y1, z1'⟩ : ∃ y1, wr.setCell ⟨p, m, none⟩ (.int .i64 (st.vals m)) = y1 := ⟨_, rfl⟩
          have C1 : Cpy d st p q r s y1 _ _ _ _ := z1' ▸ hC.set1 f hlt _
          have c71 := C1.mem.C.cell 7 (by omega)
          have k1 := C1.mem.K.cell m hlt
          have q1 := C1.rq.cell m hlt
          have q2 := C1.rq.free m hlt
          obtain ⟨y2, z2'⟩ : ∃ y2, y1.setCell ⟨q, m, none⟩ (.int .i64 (st.ctrs m)) = y2 := ⟨_, rfl⟩
          have C2 : Cpy d st p q r s y2 _ _ _ _ := z2' ▸ C1.set2 f hlt _
          have c82 := C2.mem.C.cell 8 (by omega)
          have u2 := C2.mem.U.cell m hlt
          have r1 := C2.rr.cell m hlt
          have r2 := C2.rr.free m hlt
          obtain ⟨y3, z3'⟩ : ∃ y3, y2.setCell ⟨r, m, none⟩ (.int .i64 (st.vch m)) = y3 := ⟨_, rfl⟩
          have C3 : Cpy d st p q r s y3 _ _ _ _ := z3' ▸ C2.set3 f hlt _
          have c113 := C3.mem.C.cell 11 (by omega)
          obtain ⟨l0, l1, l2⟩ := C3.mem.lcell hlt
          have s1 := C3.rs.cell (m * 3) (by omega)
          have s2 := C3.rs.free (m * 3) (by omega)
          obtain ⟨y4, z4'⟩ : ∃ y4, y3.setCell ⟨s, m * 3, none⟩ (.int .i64 m) = y4 := ⟨_, rfl⟩
          have C4 : Cpy d st p q r s y4 _ _ _ _ := z4' ▸ C3.set4 f (j := m * 3) (by omega) _
          have s3 := C4.rs.cell (m * 3 + 1) (by omega)
          have s4 := C4.rs.free (m * 3 + 1) (by omega)
          obtain ⟨y5, z5'⟩ : ∃ y5, y4.setCell ⟨s, m * 3 + 1, none⟩ (.int .i64 (st.lval m)) = y5 := ⟨_, rfl⟩
          have C5 : Cpy d st p q r s y5 _ _ _ _ := z5' ▸ C4.set4 f (j := m * 3 + 1) (by omega) _
          have s5 := C5.rs.cell (m * 3 + 2) (by omega)
          have s6 := C5.rs.free (m * 3 + 2) (by omega)
          obtain ⟨y6, z6'⟩ : ∃ y6, y5.setCell ⟨s, m * 3 + 2, none⟩ (.int .i64 (st.lctr m)) = y6 := ⟨_, rfl⟩
          have C6 : Cpy d st p q r s y6 _ _ _ _ := z6' ▸ C5.set4 f (j := m * 3 + 2) (by omega) _
          have B6 : Below w.heap.size w y6 := by
            have a := f.pq; have b := f.qr; have c := f.rs
            rw [← z6', ← z5', ← z4', ← z3', ← z2', ← z1']
            exact (((((hbl.setCell (by show _ ≤ p; omega) _).setCell (by show _ ≤ q; omega) _).setCell (by show _ ≤ r; omega) _).setCell (by show _ ≤ s; omega) _).setCell (by show _ ≤ s; omega) _).setCell (by show _ ≤ s; omega) _
          have H6 : Hid (Below w.heap.size w y6 ∧ ∃ g1 g2 g3 g4, Cpy d st p q r s y6 g1 g2 g3 g4 ∧ Got st (m + 1) g1 g2 g3 g4) := ⟨B6, _, _, _, _, C6, hG.step⟩
          simp only [cC, slc] at c6 c71 c82 c113
          clear C1 C2 C3 C4 C5 C6 B6 hC hG hbl f
          go_wp2_with fail
          go_roundw
          case rel => exact ⟨m + 1, by omega, by go_num, H6.out.1, H6.out.2⟩
          case measure => simp [intOf]; omega
        · obtain rfl : m = d.n := by omega
          have h14 := hC.mem.C.cell 14 (by omega)
          have HO := output_any d st wr hC.mem
          simp only [cC] at h14
          have HCl := claims_any z1 a1 b1 o1 n1 c1 wr hn1 hnil1 (fun i hi => ⟨(H1.out i hi).1, Nat.lt_of_lt_of_le (H1.out i hi).2.1 hbl.size, fun k hk => (hbl.cell (p := ⟨b1, o1 + i * 3 + k, none⟩) (H1.out i hi).2.1).trans ((H1.out i hi).2.2 k hk)⟩)
          have HBL : Hid (Below w.heap.size w wr) := hbl
          have HC : Hid (Cpy d st p q r s wr g1 g2 g3 g4) := hC
          have HG : Hid (Got st d.n g1 g2 g3 g4) := hG
          clear hbl hC hG
          go_wp2_with fail
          refine HO.mono ?_
          rintro e wx ⟨rfl, hwx⟩
          rw [hwx]
          clear hwx wx HO
          go_wp2_with fail
          refine HCl.mono ?_
          rintro e w2 ⟨a1', rfl, _, hb2, _⟩
          have B2 : Below w.heap.size w w2 := HBL.out.trans ⟨hb2.os, hb2.tape, hb2.output, hb2.size, fun k hk => hb2.block k (Nat.lt_of_lt_of_le hk HBL.out.size)⟩
          have C2 := HC.out.below HFar.out hb2
          have HCp := copy_any z0 a0 b0 o0 n0 c0 w2 hn0 hnil0 (fun i hi => ⟨(H0.out i hi).1, Nat.lt_of_lt_of_le (H0.out i hi).2.1 B2.size, (B2.cell (p := ⟨b0, o0 + i, none⟩) (H0.out i hi).2.1).trans (H0.out i hi).2.2⟩)
          have HB2 : Hid (Below w.heap.size w w2) := B2
          have HC2 : Hid (Cpy d st p q r s w2 g1 g2 g3 g4) := C2
          clear B2 C2 HCl hb2 HBL HC h14
          go_wp2_with fail
          refine HCp.mono ?_
          rintro e w3 ⟨a0', rfl, _, hb3, _⟩
          have B3 : Below w.heap.size w w3 := HB2.out.trans ⟨hb3.os, hb3.tape, hb3.output, hb3.size, fun k hk => hb3.block k (Nat.lt_of_lt_of_le hk HB2.out.size)⟩
          have C3 := HC2.out.below HFar.out hb3
          have HRv := receive_ign d st w3 C3.mem fr fr iv ic a1' a0' n1 n1 n0 n0 (by rw [dsS]; exact hfr')
          have HB3 : Hid (Below w.heap.size w w3) := B3
          have HC3 : Hid (Cpy d st p q r s w3 g1 g2 g3 g4) := C3
          clear B3 C3 HCp hb3 HB2 HC2
          go_wp2_with fail
          refine HRv.mono ?_
          rintro e w4 ⟨rfl, hb4⟩
          have B4 : Below w.heap.size w w4 := HB3.out.trans ⟨hb4.os, hb4.tape, hb4.output, hb4.size, fun k hk => hb4.block k (Nat.lt_of_lt_of_le hk HB3.out.size)⟩
          have C4 := HC3.out.below HFar.out hb4
          have HB4 : Hid (∀ k, Below w.heap.size w (w4.drewN k)) := fun k => ⟨B4.os, B4.tape, B4.output, B4.size, B4.block⟩
          have HC4 : Hid (Cpy d st p q r s w4 g1 g2 g3 g4) := C4
          clear B4 C4 HRv hb4 HB3 HC3
          go_wp2_with fail
          go_loopw [34] (fun x wr => ∃ m : Nat, m ≤ d.n ∧ x = .int .i64 m ∧ ∃ k, wr = w4.drewN k) (fun x _ => d.n - (intOf x).toNat)
          case atStart => exact ⟨0, Nat.zero_le _, rfl, 0, rfl⟩
          case round =>
            obtain ⟨m, hm, rfl, kq, rfl⟩ := hrel
            by_cases hlt : m < d.n
            · have C := HC4.out
              have G := HG.out
              have c6 := C.mem.C.cell 6 (by omega)
              have c7 := C.mem.C.cell 7 (by omega)
              have c8 := C.mem.C.cell 8 (by omega)
              have c10 := C.mem.C.cell 10 (by omega)
              have c11 := C.mem.C.cell 11 (by omega)
              have v0 := C.mem.V.cell m hlt
              have k0 := C.mem.K.cell m hlt
              have u0 := C.mem.U.cell m hlt
              obtain ⟨l0, l1, l2⟩ := C.mem.lcell hlt
              have p0 := C.rp.cell m hlt
              have q0 := C.rq.cell m hlt
              have r0 := C.rr.cell m hlt
              have s0 := C.rs.cell (m * 3) (by omega)
              have s1 := C.rs.cell (m * 3 + 1) (by omega)
              have s2 := C.rs.cell (m * 3 + 2) (by omega)
              have w0 := C.mem.L.cell (m * 3) (by omega)
              have w1 := C.mem.L.cell (m * 3 + 1) (by omega)
              have w2 := C.mem.L.cell (m * 3 + 2) (by omega)
              rw [G.a m hlt] at p0
              rw [G.b m hlt] at q0
              rw [G.c m hlt] at r0
              rw [G.e _ (by omega), ← w0, l0] at s0
              rw [G.e _ (by omega), ← w1, l1] at s1
              rw [G.e _ (by omega), ← w2, l2] at s2
              have t0 := C.mem.acell hlt
              have t1 := C.mem.acell1 hlt
              rw [HFW.out, nilS] at t0
              simp only [cC, slc] at c6 c7 c8 c10 c11
              have hneq := neq_claim
              clear C G w0 w1 w2
              go_wp2_with fail
              go_quiet (fail)
              go_wp2_with fail
              go_roundw
              case rel => exact ⟨m + 1, by omega, by go_num, _, rfl⟩
              case measure => simp [intOf]; omega
            · obtain rfl : m = d.n := by omega
              have h14 := HC4.out.mem.C.cell 14 (by omega)
              simp only [cC] at h14
              have HO := output_any d st (w4.drewN kq) (HC4.out.mem.drewN kq)
              go_wp2_with fail
              refine HO.mono ?_
              rintro e wx ⟨rfl, hwx⟩
              rw [hwx]
              clear hwx wx HO
              go_wp2_with fail
              go_ret
              exact ⟨rfl, HB4.out _⟩
end Go.Proofs.YbulkcwpuFmt
