/-
  The walks of slices.IndexFunc (26), slices.ContainsFunc (19) at the one closure, and of '(*midxWriter).largeOffsets' (11).
-/
import Derived.Test.YbulkcwqiFmtRows
import Derived.WalkKit
import Derived.WalkSpells
import Derived.WalkLawsBesides
import Derived.Deep.QuietTactic
import Derived.BigQuiet
import Derived.Laws.CopyOwn
namespace Go.Proofs.YbulkcwqiFmt
open Go.RowKit
set_option linter.unusedVariables false

/-- Is one of the first n numbers above 2^32 - 1? -/
def anyBig (z : Nat → Int) : Nat → Bool
  | 0 => false
  | k + 1 => anyBig z k || decide (4294967295 < z k)
/-- Those of the first n numbers that are 2^31 or more, in order. -/
def bigs (z : Nat → Int) : Nat → List Int
  | 0 => []
  | k + 1 => if 2147483648 ≤ z k then bigs z k ++ [z k] else bigs z k
theorem bigs_le (z : Nat → Int) (n : Nat) : (bigs z n).length ≤ n := by
  induction n with
  | zero => simp [bigs]
  | succ n ih =>
    rw [bigs]
    split
    · rw [List.length_append]; simp; omega
    · omega
theorem bigs_pos (z : Nat → Int) (n : Nat) (h : anyBig z n = true) : 0 < (bigs z n).length := by
  induction n with
  | zero => simp [anyBig] at h
  | succ n ih =>
    rw [bigs]
    rw [anyBig] at h
    split
    · simp
    · rename_i h'
      have : decide (4294967295 < z n) = false := by simp; omega
      rw [this, Bool.or_false] at h
      exact ih h

theorem any_mono (z : Nat → Int) (k n : Nat) (hk : k < n) (hz : 4294967295 < z k) : anyBig z n = true := by
  induction n with
  | zero => omega
  | succ n ih =>
    rw [anyBig]
    by_cases e : k = n
    · subst e; simp [hz]
    · rw [ih (by omega)]; simp

set_option maxHeartbeats 400000 in
theorem index_any (z : Nat → Int) (b off n cap : Nat) (w : World) (hn : n ≤ 1024)
    (hc : ∀ i, i < n → w.cell? ⟨b, off + i, none⟩ = some (.int .u64 (z i))) :
    Calls Ybaf.prog 26 #[.slice (some ⟨b, off, none⟩) n cap, .func (.func 20) #[] #[]] w fun e w' => ∃ r : Int, e = .returned (.int .i64 r) ∧ decide (0 ≤ r) = anyBig z n ∧ w' = w := by
  go_enter Ybaf.func26, Ybaf.ntmps26
  go_wp2_with fail
  go_loop [8] (fun x => ∃ k : Nat, k ≤ n ∧ anyBig z k = false ∧ x = .int .i64 k) (fun x => n - (intOf x).toNat)
  case atStart => exact ⟨0, Nat.zero_le _, rfl, rfl⟩
  case round =>
    obtain ⟨k, hk, hb, rfl⟩ := hrel
    by_cases hlt : k < n
    · have c := hc k hlt
      by_cases hz : 4294967295 < z k
      · have HM : Hid (anyBig z n = true) := any_mono z k n hlt hz
        go_wp2_with go_in
        go_ret
        exact ⟨k, rfl, by rw [HM.out]; simp, rfl⟩
      · have hz' : z k ≤ 4294967295 := by omega
        have HN : Hid (anyBig z (k + 1) = false) := by
          show anyBig z (k + 1) = false
          rw [anyBig, hb]; simp; omega
        clear hb
        go_wp2_with go_in
        go_round
        case rel => exact ⟨k + 1, by omega, HN.out, by go_num⟩
        case measure => simp [intOf]; omega
    · have HB : Hid (anyBig z n = false) := by
        show anyBig z n = false
        rw [show n = k by omega]; exact hb
      clear hb
      go_wp2_with fail
      go_ret
      exact ⟨-1, rfl, by rw [HB.out]; simp, rfl⟩

set_option maxHeartbeats 400000 in
theorem contains_any (z : Nat → Int) (b off n cap : Nat) (w : World) (hn : n ≤ 1024)
    (hc : ∀ i, i < n → w.cell? ⟨b, off + i, none⟩ = some (.int .u64 (z i))) :
    Calls Ybaf.prog 19 #[.slice (some ⟨b, off, none⟩) n cap, .func (.func 20) #[] #[]] w fun e w' => e = .returned (.bool (anyBig z n)) ∧ w' = w := by
  go_enter Ybaf.func19, Ybaf.ntmps19
  go_wp2_with fail
  refine (index_any z b off n cap _ hn hc).mono ?_
  rintro e w' ⟨r, rfl, hr, rfl⟩
  have HR : Hid (decide (0 ≤ r) = anyBig z n) := hr
  clear hr
  go_wp2_with fail
  go_ret
  refine ⟨?_, rfl⟩
  show Ending.returned (.bool (decide (0 ≤ r))) = _
  rw [HR.out]

theorem Ybaf.info27 : (Ybaf.prog.info? 27).map (fun i => (i.zero, i.size, i.bytes)) = some (some (.int .u64 0), 1, 8) := by kernel_rfl

set_option maxHeartbeats 800000 in
/-- 'largeOffsets' where no number needs more than four bytes: nil. -/
theorem large_none (z : Nat → Int) (P S n : Nat) (w : World) (hn : n ≤ 1024)
    (hm : w.cell? ⟨P, 4, none⟩ = some (.slice (some ⟨S, 0, none⟩) n n))
    (hc : ∀ i, i < n → w.cell? ⟨S, 0 + i, none⟩ = some (.int .u64 (z i))) (ha : anyBig z n = false) :
    Calls Ybaf.prog 11 #[.pointer (some ⟨P, 0, none⟩)] w fun e w' => e = .returned (.tuple #[.slice none 0 0, .nilIface]) ∧ w' = w := by
  go_enter Ybaf.func11, Ybaf.ntmps11
  go_wp2_with fail
  refine (contains_any z S 0 n n _ hn hc).mono ?_
  rintro e w' ⟨rfl, rfl⟩
  rw [ha]
  go_wp2_with fail
  go_ret2
  exact ⟨rfl, rfl⟩

theorem own_ge {w : World} {base : Nat} {e : TypeId} {size : Nat} {v : Value} {n : Nat} {xs : List Value} (h : w.ownsRow base e size v n xs) : ∀ r, v.ownBlock = some r → base ≤ r := by
  intro r hr
  rcases h.2 with ⟨rfl, _⟩ | ⟨g, cap, cur, rfl, hg, _⟩
  · cases hr
  · cases hr; exact hg

/-- One number more is kept. -/
theorem rel_keep {z : Nat → Int} {k B : Nat} {w wr w1 : World} {v' : Value} (hz : 2147483648 ≤ z k) (hB : B ≤ wr.heap.size)
    (hbl : Below B w wr) {row : Option Nat} (hrow : ∀ r, row = some r → B ≤ r)
    (hown' : w1.ownsRow B 27 1 v' ((bigs z k).length + 1) ((bigs z k).map (Value.int .u64) ++ [.int .u64 (z k)])) (hgrow : (wr.alloc (.cells #[.int .u64 (z k)] 27)).grownBy w1 row) :
    w1.ownsRow B 27 1 v' (bigs z (k + 1)).length ((bigs z (k + 1)).map (Value.int .u64)) ∧ Below B w w1 := by
  refine ⟨?_, (hbl.alloc hB _).grown hgrow (by simp; omega) hrow⟩
  rw [bigs, if_pos hz]
  simpa using hown'

set_option maxHeartbeats 800000 in
/-- 'largeOffsets' where a number needs more than four bytes. -/
theorem large_some (z : Nat → Int) (P S n : Nat) (w : World) (hn : n ≤ 1024)
    (hP : P < w.heap.size) (hS : S < w.heap.size)
    (hm : w.cell? ⟨P, 4, none⟩ = some (.slice (some ⟨S, 0, none⟩) n n))
    (hc : ∀ i, i < n → w.cell? ⟨S, 0 + i, none⟩ = some (.int .u64 (z i))) (ha : anyBig z n = true) :
    Calls Ybaf.prog 11 #[.pointer (some ⟨P, 0, none⟩)] w fun e w' => ∃ v, e = .returned (.tuple #[v, .nilIface]) ∧
      w'.ownsRow w.heap.size 27 1 v (bigs z n).length ((bigs z n).map (Value.int .u64)) ∧ Below w.heap.size w w' := by
  obtain ⟨i0, hi, hz0, hz1, hz2⟩ := info_parts Ybaf.info27
  go_enter Ybaf.func11, Ybaf.ntmps11
  go_wp2_with fail
  refine (contains_any z S 0 n n _ hn hc).mono ?_
  rintro e w' ⟨rfl, rfl⟩
  rw [ha]
  clear ha
  go_wp2_with fail
  go_loopw [4, 18] (fun v i wr => ∃ k : Nat, k ≤ n ∧ i = .int .i64 k ∧ wr.ownsRow w'.heap.size 27 1 v (bigs z k).length ((bigs z k).map (Value.int .u64)) ∧ Below w'.heap.size w' wr) (fun _ i _ => n - (intOf i).toNat)
  case atStart => exact ⟨0, Nat.zero_le _, rfl, World.ownsRow_nil _ _ _ _, Below.refl _ _⟩
  case round =>
    obtain ⟨k, hk, rfl, hown, hbl⟩ := hrel
    have hle := bigs_le z k
    by_cases hlt : k < n
    · have hck : wr.cell? ⟨S, k, none⟩ = some (.int .u64 (z k)) := (hbl.cell (p := ⟨S, k, none⟩) hS).trans (by simpa using hc k hlt)
      by_cases hz : 2147483648 ≤ z k
      · go_wp2_with (at_builtin; refine wpList_append_own _ rfl _ _ 22 rfl w'.heap.size 27 i0 (.int .u64 0) 1 8 Ybaf.underlying22 hi hz0 hz1 hz2 rfl (by decide) _ _ _ rfl (hown.alloc _) ⟨wr.heap.size, 0, none⟩ 1 1 [.int .u64 (z k)] rfl rfl ?c1 ?c2 ?c3 ?c4 ?c5 ?_)
        case c1 =>
          intro j u hj
          match j, hj with
          | 0, hj => simp at hj; subst hj; simp [Addr.add]
        case c2 => intro u hu; simp at hu; subst hu; rfl
        case c3 => unfold maxLen; omega
        case c4 => omega
        case c5 => have := hbl.size; simp; omega
        · intro v' w1 hown' hgrow hlast
          have R := rel_keep hz (by have := hbl.size; omega) hbl (own_ge hown) hown' hgrow
          clear hown' hgrow hown hlast
          go_wp2_with fail
          go_roundw
          case rel => exact ⟨k + 1, by omega, by go_num, R.1, R.2⟩
          case measure => simp [intOf]; omega
      · have hz' : z k < 2147483648 := by omega
        go_wp2_with fail
        go_roundw
        case rel => exact ⟨k + 1, by omega, by go_num, by rw [bigs, if_neg hz]; exact hown, hbl⟩
        case measure => simp [intOf]; omega
    · have hkn : k = n := by omega
      subst hkn
      obtain ⟨len, hlen⟩ : ∃ len, (bigs z k).length = len := ⟨_, rfl⟩
      have hl : (len : Int) ≤ 1024 := by omega
      have hd : decide ((2147483648 : Int) < (len : Int)) = false := decide_eq_false (by omega)
      have HO : Hid (wr.ownsRow w'.heap.size 27 1 u4 (bigs z k).length ((bigs z k).map (Value.int .u64))) := hown
      obtain ⟨p, cp, hv⟩ : ∃ p cp, u4 = .slice p len cp := by
        rcases hown.2 with ⟨h1, h2⟩ | ⟨g, cap, cur, h1, _⟩
        · rw [hlen] at h2; exact ⟨none, 0, by rw [h1, h2]⟩
        · rw [hlen] at h1; exact ⟨_, _, h1⟩
      subst hv
      clear hown hlen hle
      go_wp2_with fail
      go_ret2
      exact ⟨_, rfl, HO.out, hbl⟩
end Go.Proofs.YbulkcwqiFmt
