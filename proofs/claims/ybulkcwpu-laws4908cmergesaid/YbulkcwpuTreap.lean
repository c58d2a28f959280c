/-
  The plain law of 'merge': joining one node i to the tree over 0 .. i-1 keeps the order. No Go text in sight but for the row of cells.
-/
import Derived.Test.YbulkcwpuRow
namespace Go.Proofs.Ybulkcwpu
open Go.RowKit

def updI (f : Nat → Int) (p : Nat) (v : Int) : Nat → Int := fun j => if j = p then v else f j
theorem updI_same (f : Nat → Int) (p : Nat) (v : Int) : updI f p v p = v := by simp [updI]
theorem updI_ne (f : Nat → Int) (p j : Nat) (v : Int) (h : j ≠ p) : updI f p v j = f j := by simp [updI, h]

/-! The end of an ascending chain below n. -/
def highF (hi : Nat → Int) : Nat → Int → Int
  | 0, t => t
  | f + 1, t => if 0 ≤ t ∧ 0 ≤ hi t.toNat then highF hi f (hi t.toNat) else t
def highG (n : Nat) (hi : Nat → Int) (t : Int) : Int := highF hi (n - t.toNat) t

/-- The links go up, and stay below n. -/
def Up (n : Nat) (hi : Nat → Int) : Prop := ∀ j, j < n → 0 ≤ hi j → (j : Int) < hi j ∧ hi j < n

theorem highF_more (hi : Nat → Int) (n : Nat) (hb : Up n hi) : ∀ (f : Nat) (t : Int), 0 ≤ t → t < n → n - t.toNat ≤ f → highF hi (f + 1) t = highF hi f t := by
  intro f
  induction f with
  | zero => intro t h0 ht hf; exact absurd hf (by omega)
  | succ f ih =>
    intro t h0 ht hf
    rw [highF]
    conv => rhs; rw [highF]
    split
    · rename_i h
      have hb' := hb t.toNat (by omega) h.2
      exact ih (hi t.toNat) h.2 (by omega) (by omega)
    · rfl

theorem highF_fuel (hi : Nat → Int) (n : Nat) (hb : Up n hi) (t : Int) (h0 : 0 ≤ t) (ht : t < n) : ∀ (d : Nat), highF hi (n - t.toNat + d) t = highG n hi t := by
  intro d
  induction d with
  | zero => rfl
  | succ d ih => rw [← ih, ← Nat.add_assoc]; exact highF_more hi n hb _ t h0 ht (by omega)

theorem highG_eq (hi : Nat → Int) (n : Nat) (hb : Up n hi) (t : Int) (ht : t < n) : highG n hi t = if 0 ≤ t ∧ 0 ≤ hi t.toNat then highG n hi (hi t.toNat) else t := by
  by_cases h0 : 0 ≤ t
  · obtain ⟨m, hm⟩ : ∃ m, n - t.toNat = m + 1 := ⟨n - t.toNat - 1, by omega⟩
    show highF hi (n - t.toNat) t = _
    rw [hm, highF]
    split
    · rename_i h
      have hb' := hb t.toNat (by omega) h.2
      have e := highF_fuel hi n hb (hi t.toNat) h.2 hb'.2 (m - (n - (hi t.toNat).toNat))
      rwa [show n - (hi t.toNat).toNat + (m - (n - (hi t.toNat).toNat)) = m by omega] at e
    · rfl
  · rw [if_neg (by omega)]
    show highF hi (n - t.toNat) t = t
    cases n - t.toNat with
    | zero => rfl
    | succ m => rw [highF, if_neg (by omega)]

/-- The chain from t reads only links from t on. -/
theorem highF_congr (hi hi' : Nat → Int) (n : Nat) (hb : Up n hi) : ∀ (f : Nat) (t : Int), t < n → (∀ j : Nat, t ≤ j → j < n → hi j = hi' j) → highF hi f t = highF hi' f t := by
  intro f
  induction f with
  | zero => intros; rfl
  | succ f ih =>
    intro t ht h
    rw [highF, highF]
    by_cases h0 : 0 ≤ t
    · rw [← h t.toNat (by omega) (by omega)]
      split
      · rename_i h1
        have hb' := hb t.toNat (by omega) h1.2
        exact ih _ hb'.2 (fun j hj hjn => h j (by omega) hjn)
      · rfl
    · rw [if_neg (by omega), if_neg (by omega)]

/-- The descending chain from t reads only links up to t. -/
theorem lowF_congr (lo lo' : Nat → Int) (n : Nat) (hb : ∀ i, i < n → lo i < i) : ∀ (f : Nat) (t : Int), t < n → (∀ j : Nat, (j : Int) ≤ t → lo j = lo' j) → lowF lo f t = lowF lo' f t := by
  intro f
  induction f with
  | zero => intros; rfl
  | succ f ih =>
    intro t ht h
    rw [lowF, lowF]
    by_cases h0 : 0 ≤ t
    · rw [← h t.toNat (by omega)]
      split
      · have hb' := hb t.toNat (by omega)
        exact ih _ (by omega) (fun j hj => h j (by omega))
      · rfl
    · rw [if_neg (by omega), if_neg (by omega)]

/-- The links of the tree over 0 .. i-1; from i on every node stands alone. -/
structure TInv (n i : Nat) (lo hi : Nat → Int) : Prop where
  los : ∀ j, j < n → -1 ≤ lo j ∧ lo j < j
  his : ∀ j, j < n → -1 ≤ hi j ∧ (0 ≤ hi j → (j : Int) < hi j ∧ hi j < i)
  alone : ∀ j, i ≤ j → j < n → lo j = -1 ∧ hi j = -1

theorem TInv.up {n i : Nat} {lo hi : Nat → Int} (h : TInv n i lo hi) (hi' : i ≤ n) : Up n hi := fun j hj h0 => by have := (h.his j hj).2 h0; omega

/-- What merging tree a and node i leaves. -/
structure MPost (n i : Nat) (a : Int) (lo hi lo' hi' : Nat → Int) (r : Int) : Prop where
  inv : TInv n (i + 1) lo' hi'
  r0 : 0 ≤ r
  rle : r ≤ i
  ra : a ≤ r
  low : lowG lo' r = if a < 0 then (i : Int) else lowG lo a
  high : highG n hi' r = i
  flo : ∀ j, j ≠ i → lo' j = lo j
  fhi : ∀ j : Nat, j < i → (a < 0 ∨ (j : Int) < a) → hi' j = hi j

theorem inv_more {n i : Nat} {lo hi : Nat → Int} (h : TInv n i lo hi) : TInv n (i + 1) lo hi :=
  ⟨h.los, fun j hj => ⟨(h.his j hj).1, fun h0 => by have := (h.his j hj).2 h0; omega⟩, fun j hj => h.alone j (by omega)⟩

theorem high_alone {n i : Nat} {lo hi : Nat → Int} (h : TInv n i lo hi) (hin : i < n) : highG n hi i = i := by
  rw [highG_eq hi n (h.up (by omega)) i (by omega), if_neg (by simp [(h.alone i (Nat.le_refl _) hin).2])]

theorem post_neg {n i : Nat} {a : Int} {lo hi : Nat → Int} (h : TInv n i lo hi) (hin : i < n) (ha : a < 0) : MPost n i a lo hi lo hi i := by
  refine ⟨inv_more h, by omega, by omega, by omega, ?_, high_alone h hin, fun _ _ => rfl, fun _ _ _ => rfl⟩
  rw [if_pos ha, lowG_eq lo n (fun j hj => (h.los j hj).2) i (by omega), if_neg (by simp [(h.alone i (Nat.le_refl _) hin).1])]

theorem post_low {n i a : Nat} {lo hi : Nat → Int} (h : TInv n i lo hi) (hin : i < n) (ha : a < i) : MPost n i a lo hi (updI lo i a) hi i := by
  have hlo : ∀ j, j < n → -1 ≤ updI lo i a j ∧ updI lo i a j < j := by
    intro j hj
    by_cases e : j = i
    · subst e; rw [updI_same]; omega
    · rw [updI_ne _ _ _ _ e]; exact h.los j hj
  refine ⟨⟨hlo, (inv_more h).his, fun j hj hjn => ?_⟩, by omega, by omega, by omega, ?_, high_alone h hin, fun j hj => updI_ne _ _ _ _ hj, fun _ _ _ => rfl⟩
  · rw [updI_ne _ _ _ _ (by omega)]; exact h.alone j (by omega) hjn
  · rw [if_neg (by omega), lowG_eq _ n (fun j hj => (hlo j hj).2) i (by omega)]
    simp only [Int.toNat_natCast, updI_same]
    rw [if_pos (by omega)]
    exact (lowF_congr lo (updI lo i a) n (fun j hj => (h.los j hj).2) _ a (by omega) (fun j hj => (updI_ne _ _ _ _ (by omega)).symm)).symm

theorem post_high {n i a : Nat} {r : Int} {lo hi lo' hi' : Nat → Int} (h : TInv n i lo hi) (hin : i < n) (ha : a < i) (hp : MPost n i (hi a) lo hi lo' hi' r) : MPost n i a lo hi lo' (updI hi' a r) a := by
  have hia := h.his a (by omega)
  have har : (a : Int) < r := by
    by_cases e : 0 ≤ hi a
    · have := hia.2 e; have := hp.ra; omega
    · have hn : hi a < 0 := by omega
      -- then the node itself is what comes back
      have hr := hp.high
      by_cases e2 : r = i
      · omega
      · exfalso
        have hl := hp.low
        rw [if_pos hn] at hl
        have hd : ∀ (f : Nat) (t : Int), t < n → lowF lo' f t ≤ t := by
          intro f
          induction f with
          | zero => intro t _; exact Int.le_refl _
          | succ f ih =>
            intro t ht
            rw [lowF]
            split
            · have := (hp.inv.los t.toNat (by omega)).2
              have := ih (lo' t.toNat) (by omega)
              omega
            · exact Int.le_refl _
        have := hd (r.toNat + 1) r (by have := hp.rle; omega)
        have hrle := hp.rle
        rw [show lowF lo' (r.toNat + 1) r = lowG lo' r from rfl] at this
        omega
  have hup : TInv n (i + 1) lo' (updI hi' a r) := by
    refine ⟨hp.inv.los, fun j hj => ?_, fun j hj hjn => ?_⟩
    · by_cases e : j = a
      · subst e; rw [updI_same]; have := hp.rle; omega
      · rw [updI_ne _ _ _ _ e]; exact hp.inv.his j hj
    · rw [updI_ne _ _ _ _ (by omega)]; exact hp.inv.alone j hj hjn
  refine ⟨hup, by omega, by omega, by omega, ?_, ?_, hp.flo, fun j hj hja => ?_⟩
  · rw [if_neg (by omega)]
    exact (lowF_congr lo lo' n (fun j hj => (h.los j hj).2) _ a (by omega) (fun j hj => (hp.flo j (by omega)).symm)).symm
  · rw [highG_eq _ n (hup.up (by omega)) a (by omega)]
    simp only [Int.toNat_natCast, updI_same]
    rw [if_pos ⟨by omega, hp.r0⟩, ← hp.high]
    exact (highF_congr hi' _ n (hp.inv.up (by omega)) _ r (by have := hp.rle; omega) (fun j hj _ => (updI_ne _ _ _ _ (by omega)).symm)).symm
  · rw [updI_ne _ _ _ _ (by omega)]
    exact hp.fhi j hj (by omega)
end Go.Proofs.Ybulkcwpu
