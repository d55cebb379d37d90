/-
  WALK: zzNumber. First the plain facts of its stages.
-/
import Derived.Test.Qxb6602476aWalk1
import Derived.Deep.Cut
import Derived.Deep.CutRange
import Derived.Deep.DeepCutAuto
namespace Go.Proofs.Qxb6602476a.Plain

def SignAt (v : Nat → Nat) (i m : Nat) (neg : Bool) : Prop := (neg = true ∧ v i = 45 ∧ m = i + 1) ∨ (neg = false ∧ v i ≠ 45 ∧ m = i)
/-- The mantissa's first nonzero digit, as counted up to j. -/
def MI (v : Nat → Nat) (m p j lead : Nat) (seen : Bool) : Prop := Fst v m p j seen lead ∧ (seen = false → lead = (p - m) + (j - p - 1))
def IntAt (v : Nat → Nat) (m p lead : Nat) (seen : Bool) : Prop := m < p ∧ (∀ k, m ≤ k → k < p → Dg (v k)) ∧ MI v m p p lead seen
def FracAt (v : Nat → Nat) (p q : Nat) : Prop := q = p ∨ (v p = 46 ∧ p + 1 < q ∧ ∀ k, p + 1 ≤ k → k < q → Dg (v k))

theorem nz48 {c : Nat} (h : Dg c) (hn : c ≠ 48) : Nz c := by unfold Dg at h; unfold Nz; omega
theorem not_nz48 : ¬ Nz 48 := by unfold Nz; omega
theorem IntAt.zero {v : Nat → Nat} {m : Nat} (h : v m = 48) : IntAt v m (m + 1) 1 false := by
  refine ⟨by omega, fun k h1 h2 => ?_, Or.inr ⟨rfl, fun k h1 h2 => ?_⟩, fun _ => by omega⟩
  · obtain rfl : k = m := by omega
    rw [h]; unfold Dg; omega
  · obtain rfl : k = m := by omega
    rw [h]; exact not_nz48
theorem IntAt.run {v : Nat → Nat} {m p : Nat} (hp : m < p) (hz : Nz (v m)) (hd : ∀ k, m ≤ k → k < p → Dg (v k)) : IntAt v m p 0 true := by
  refine ⟨hp, hd, Or.inl ⟨rfl, m, by omega, hp, hz, fun k h1 h2 => by omega, ?_⟩, fun h => by cases h⟩
  rw [if_neg (by omega)]; omega
theorem MI.dot {v : Nat → Nat} {m p lead : Nat} {seen : Bool} (h : MI v m p p lead seen) (hd : v p = 46) : MI v m p (p + 1) lead seen := by
  refine ⟨?_, fun hs => by rw [h.2 hs]; omega⟩
  rcases h.1 with ⟨h1, f, h2, h3, h4, h5, h6⟩ | ⟨h1, h2⟩
  · exact Or.inl ⟨h1, f, h2, by omega, h4, h5, h6⟩
  · refine Or.inr ⟨h1, fun k k1 k2 => ?_⟩
    rcases Nat.lt_or_ge k p with h3 | h3
    · exact h2 k k1 h3
    · obtain rfl : k = p := by omega
      rw [hd]; unfold Nz; omega
theorem MI.seen {v : Nat → Nat} {m p j lead : Nat} (h : MI v m p j lead true) : MI v m p (j + 1) lead true := by
  refine ⟨?_, fun hs => by cases hs⟩
  rcases h.1 with ⟨h1, f, h2, h3, h4, h5, h6⟩ | ⟨h1, h2⟩
  · exact Or.inl ⟨h1, f, h2, by omega, h4, h5, h6⟩
  · cases h1
theorem MI.zero {v : Nat → Nat} {m p j lead : Nat} (h : MI v m p j lead false) (hj : p < j) (hd : v j = 48) : MI v m p (j + 1) (lead + 1) false := by
  refine ⟨?_, fun hs => by rw [h.2 hs]; omega⟩
  rcases h.1 with ⟨h1, _⟩ | ⟨h1, h2⟩
  · cases h1
  · refine Or.inr ⟨h1, fun k k1 k2 => ?_⟩
    rcases Nat.lt_or_ge k j with h3 | h3
    · exact h2 k k1 h3
    · obtain rfl : k = j := by omega
      rw [hd]; exact not_nz48
theorem MI.first {v : Nat → Nat} {m p j lead : Nat} (h : MI v m p j lead false) (hm : m ≤ p) (hj : p < j) (hd : Nz (v j)) : MI v m p (j + 1) lead true := by
  refine ⟨?_, fun hs => by cases hs⟩
  rcases h.1 with ⟨h1, _⟩ | ⟨h1, h2⟩
  · cases h1
  · refine Or.inl ⟨rfl, j, by omega, by omega, hd, h2, ?_⟩
    rw [if_pos hj, h.2 rfl]; omega
theorem clampE_small {v : Nat → Nat} {z l x d : Nat} (hx : x = clampE v z l) (hd : v (z + l) = d) (h : x * 10 + (d - 48) ≤ 1073741824) : x * 10 + (d - 48) = clampE v z (l + 1) := by
  simp only [clampE]
  rw [hd, ← hx]
  omega
theorem Gram.numch {v : Nat → Nat} {i e m p q : Nat} {neg : Bool} {X : Int} (h : Gram v i e neg m p q X) : i < e ∧ ∀ k, i < k → k < e → NumCh (v k) := by
  have hs := h.sign
  have hd := h.digits
  have hi := h.int
  have hf := h.frac
  have hq : p ≤ q := by omega
  have A : ∀ k, i < k → k < q → NumCh (v k) := by
    intro k k1 k2
    rcases Nat.lt_or_ge k p with h1 | h1
    · exact Or.inl (hd k (by omega) h1)
    · rcases hf with h2 | ⟨h2, h3, h4⟩
      · omega
      · rcases Nat.lt_or_ge p k with h5 | h5
        · exact Or.inl (h4 k h5 k2)
        · obtain rfl : k = p := by omega
          rw [h2]; unfold NumCh; omega
  have him : i ≤ m := by omega
  have B : ∀ z, q < z → (∀ k, z ≤ k → k < e → Dg (v k)) → (∀ k, q ≤ k → k < z → NumCh (v k)) → ∀ k, i < k → k < e → NumCh (v k) := by
    intro z _ hz hz2 k k1 k2
    rcases Nat.lt_or_ge k q with h1 | h1
    · exact A k k1 h1
    · rcases Nat.lt_or_ge k z with h3 | h3
      · exact hz2 k h1 h3
      · exact Or.inl (hz k h3 k2)
  cases h.expo with
  | none he => subst he; exact ⟨by omega, A⟩
  | plain h1 h2 h3 =>
    refine ⟨by omega, B (q + 1) (by omega) h3 fun k k1 k2 => ?_⟩
    obtain rfl : k = q := by omega
    unfold NumCh; omega
  | plus h1 h2 h3 h4 =>
    refine ⟨by omega, B (q + 2) (by omega) h4 fun k k1 k2 => ?_⟩
    rcases Nat.lt_or_ge q k with h5 | h5
    · obtain rfl : k = q + 1 := by omega
      unfold NumCh; omega
    · obtain rfl : k = q := by omega
      unfold NumCh; omega
  | minus h1 h2 h3 h4 =>
    refine ⟨by omega, B (q + 2) (by omega) h4 fun k k1 k2 => ?_⟩
    rcases Nat.lt_or_ge q k with h5 | h5
    · obtain rfl : k = q + 1 := by omega
      unfold NumCh; omega
    · obtain rfl : k = q := by omega
      unfold NumCh; omega
theorem Expo.abs {v : Nat → Nat} {q e : Nat} {X : Int} (h : Expo v q e X) : -1073741824 ≤ X ∧ X ≤ 1073741824 ∧ q ≤ e := by
  cases h with
  | none he => omega
  | plain h1 h2 h3 => have := clampE_le v (q + 1) (e - (q + 1)); omega
  | plus h1 h2 h3 h4 => have := clampE_le v (q + 2) (e - (q + 2)); omega
  | minus h1 h2 h3 h4 => have := clampE_le v (q + 2) (e - (q + 2)); omega
theorem MI.lead_le {v : Nat → Nat} {m p q lead : Nat} {seen : Bool} (h : MI v m p q lead seen) (hm : m < p) (hf : FracAt v p q) : lead ≤ (p - m) + fracOf p q ∧ (seen = true ↔ lead < (p - m) + fracOf p q) := by
  have h2 := h.2
  unfold FracAt at hf
  unfold fracOf
  rcases h.1 with ⟨h1, f, k2, k3, k4, k5, k6⟩ | ⟨h1, _⟩
  · subst h1
    have e : (true = true) = True := by simp
    rw [e, true_iff]
    rcases Nat.lt_or_ge p f with h5 | h5
    · rw [if_pos h5] at k6; omega
    · rw [if_neg (by omega)] at k6
      have : f ≠ p ∨ q = p := by
        rcases hf with h7 | ⟨h7, _⟩
        · exact Or.inr h7
        · refine Or.inl fun h8 => ?_
          subst h8; rw [h7] at k4; unfold Nz at k4; omega
      omega
  · subst h1
    have := h2 rfl
    have e : (false = true) = False := by simp
    rw [e, false_iff]
    omega

/-- The result of a number that holds the grammar. -/
def NumRes (v : Nat → Nat) (n i e : Nat) (sz : Int) (ex : Bool) : Prop :=
  i < e ∧ e ≤ n ∧ (∀ k, i < k → k < e → NumCh (v k)) ∧ 0 ≤ sz ∧ sz ≤ 4294967296 ∧ ∃ r, NumSz v i e r ∧ (ex = true → r = sz)

theorem numRes_big {v : Nat → Nat} {n i e m p q lead lead' : Nat} {seen' : Bool} {neg seen : Bool} {X : Int} (hs : SignAt v i m neg) (hi : IntAt v m p lead' seen') (hm : MI v m p q lead seen) (hf : FracAt v p q) (hx : Expo v q e X) (he : e ≤ n) : NumRes v n i e 0 false := by
  have g : Gram v i e neg m p q X := ⟨hs, hi.1, hi.2.1, hf, hx⟩
  exact ⟨g.numch.1, he, g.numch.2, by omega, by omega, _, ⟨neg, m, p, q, X, seen, lead, g, hm.1, rfl⟩, fun h => by cases h⟩
theorem numRes_ex {v : Nat → Nat} {n i e m p q lead : Nat} {neg seen : Bool} {X sz : Int} {lead' : Nat} {seen' : Bool} (hn : n ≤ 2097152) (hs : SignAt v i m neg) (hi : IntAt v m p lead' seen') (hm : MI v m p q lead seen) (hf : FracAt v p q) (hx : Expo v q e X) (he : e ≤ n)
    (hsz : sz = NS neg seen (p - m) (fracOf p q) lead X) : NumRes v n i e sz true := by
  have g : Gram v i e neg m p q X := ⟨hs, hi.1, hi.2.1, hf, hx⟩
  have hb := hx.abs
  have hi1 := hi.1
  have hq : p ≤ q := by unfold FracAt at hf; omega
  refine ⟨g.numch.1, he, g.numch.2, ?_, ?_, _, ⟨neg, m, p, q, X, seen, lead, g, hm.1, rfl⟩, fun _ => hsz.symm⟩
  · rw [hsz]; unfold NS fracOf; split <;> split <;> split <;> omega
  · rw [hsz]; unfold NS fracOf; split <;> split <;> split <;> omega
end Go.Proofs.Qxb6602476a.Plain
