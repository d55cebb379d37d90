/-
  THE PLAIN LAW OF THE LIST: '[' a ',' b ']' counts what a and b count, and three.
-/
import Derived.Test.Qxb6602476aScan
namespace Go.Proofs.Qxb6602476a.Plain

theorem clampE_shift {u v : Nat → Nat} {o z : Nat} : ∀ l, (∀ k, k < l → u (o + z + k) = v (z + k)) → clampE u (o + z) l = clampE v z l
  | 0, _ => rfl
  | l + 1, h => by
    simp only [clampE]
    rw [clampE_shift l (fun k hk => h k (by omega)), h l (by omega)]
theorem StrEnd.shift {u v : Nat → Nat} {n N o : Nat} (hN : o + n ≤ N) (hu : ∀ k, k < n → u (o + k) = v k) {j e : Nat} (h : StrEnd v n j e) : StrEnd u N (o + j) (o + e) := by
  induction h with
  | quote h1 h2 => exact .quote (by omega) (by rw [hu _ h1]; exact h2)
  | @esc j e h1 h2 h3 ih => exact .esc (by omega) (by rw [hu _ h1]; exact h2) (by rw [show o + j + 2 = o + (j + 2) by omega]; exact ih)
  | @other j e h1 h2 h3 h4 ih => exact .other (by omega) (by rw [hu _ h1]; exact h2) (by rw [hu _ h1]; exact h3) (by rw [show o + j + 1 = o + (j + 1) by omega]; exact ih)
theorem Expo.shift {u v : Nat → Nat} {o q e : Nat} {X : Int} (hu : ∀ k, q ≤ k → k < e → u (o + k) = v k) (h : Expo v q e X) : Expo u (o + q) (o + e) X := by
  have dig : ∀ z, q ≤ z → (∀ k, z ≤ k → k < e → Dg (v k)) → ∀ k, o + z ≤ k → k < o + e → Dg (u k) := fun z hz hd k k1 k2 => by
    obtain ⟨m, rfl⟩ : ∃ m, k = o + m := ⟨k - o, by omega⟩
    rw [hu m (by omega) (by omega)]; exact hd m (by omega) (by omega)
  have cl : ∀ z, q ≤ z → clampE u (o + z) (o + e - (o + z)) = clampE v z (e - z) := fun z hz => by
    rw [Nat.add_sub_add_left]
    exact clampE_shift _ (fun k hk => by rw [Nat.add_assoc]; exact hu (z + k) (by omega) (by omega))
  cases h with
  | none h => exact .none (by omega)
  | plain h1 h2 h3 =>
    rw [← cl (q + 1) (by omega)]
    refine .plain (by rw [hu q (by omega) (by omega)]; exact h1) (by omega) (dig (q + 1) (by omega) h3)
  | plus h1 h2 h3 h4 =>
    rw [← cl (q + 2) (by omega)]
    refine .plus (by rw [hu q (by omega) (by omega)]; exact h1) (by rw [Nat.add_assoc, hu (q + 1) (by omega) (by omega)]; exact h2) (by omega) (dig (q + 2) (by omega) h4)
  | minus h1 h2 h3 h4 =>
    rw [← cl (q + 2) (by omega)]
    refine .minus (by rw [hu q (by omega) (by omega)]; exact h1) (by rw [Nat.add_assoc, hu (q + 1) (by omega) (by omega)]; exact h2) (by omega) (dig (q + 2) (by omega) h4)
theorem Gram.shift {u v : Nat → Nat} {o i e m p q : Nat} {neg : Bool} {X : Int} (hu : ∀ k, i ≤ k → k < e → u (o + k) = v k) (h : Gram v i e neg m p q X) : Gram u (o + i) (o + e) neg (o + m) (o + p) (o + q) X := by
  have hs := h.sign
  have h1 := h.int
  have h2 := h.frac
  have h3 := h.expo.abs.2.2
  have h4 : p ≤ q := by omega
  have h5 : i ≤ m := by omega
  have sh : ∀ (a b : Nat), i ≤ a → b ≤ e → (∀ k, a ≤ k → k < b → Dg (v k)) → ∀ k, o + a ≤ k → k < o + b → Dg (u k) := fun a b ha hb hd k k1 k2 => by
    obtain ⟨m, rfl⟩ : ∃ m, k = o + m := ⟨k - o, by omega⟩
    rw [hu m (by omega) (by omega)]; exact hd m (by omega) (by omega)
  refine ⟨?_, by omega, sh m p h5 (by omega) h.digits, ?_, Expo.shift (fun k k1 k2 => hu k (by omega) k2) h.expo⟩
  · rw [hu i (by omega) (by omega)]
    rcases hs with ⟨h6, h7, h8⟩ | ⟨h6, h7, h8⟩
    · exact Or.inl ⟨h6, h7, by omega⟩
    · exact Or.inr ⟨h6, h7, by omega⟩
  · rcases h2 with h2 | ⟨h6, h7, h8⟩
    · exact Or.inl (by omega)
    · exact Or.inr ⟨by rw [hu p (by omega) (by omega)]; exact h6, by omega, by rw [Nat.add_assoc]; exact sh (p + 1) q (by omega) (by omega) h8⟩
theorem Fst.shift {u v : Nat → Nat} {o m p q first : Nat} {has : Bool} (hu : ∀ k, m ≤ k → k < q → u (o + k) = v k) (h : Fst v m p q has first) : Fst u (o + m) (o + p) (o + q) has first := by
  have sh : ∀ b, b ≤ q → (∀ k, m ≤ k → k < b → ¬ Nz (v k)) → ∀ k, o + m ≤ k → k < o + b → ¬ Nz (u k) := fun b hb hd k k1 k2 => by
    obtain ⟨m, rfl⟩ : ∃ m, k = o + m := ⟨k - o, by omega⟩
    rw [hu m (by omega) (by omega)]; exact hd m (by omega) (by omega)
  rcases h with ⟨h1, f, h2, h3, h4, h5, h6⟩ | ⟨h1, h2⟩
  · refine Or.inl ⟨h1, o + f, by omega, by omega, by rw [hu f h2 h3]; exact h4, sh f (by omega) h5, ?_⟩
    rw [h6]
    split <;> split <;> omega
  · exact Or.inr ⟨h1, sh q (Nat.le_refl _) h2⟩
theorem NumSz.shift {u v : Nat → Nat} {o i e : Nat} {r : Int} (hu : ∀ k, i ≤ k → k < e → u (o + k) = v k) (h : NumSz v i e r) : NumSz u (o + i) (o + e) r := by
  obtain ⟨neg, m, p, q, X, has, first, hg, hf, rfl⟩ := h
  have hs := hg.sign
  have h3 := hg.expo.abs.2.2
  refine ⟨neg, o + m, o + p, o + q, X, has, first, hg.shift hu, hf.shift (fun k k1 k2 => hu k (by omega) (by omega)), ?_⟩
  rw [Nat.add_sub_add_left]
  unfold fracOf
  rw [Nat.add_sub_add_left]
theorem Step.shift {u v : Nat → Nat} {n N o i e : Nat} {r : Int} (hN : o + n < N) (hu : ∀ k, k < n → u (o + k) = v k) (hend : ¬ NumCh (u (o + n))) (h : Step v n i e r) : Step u N (o + i) (o + e) r := by
  have hb := h.bound
  cases h with
  | str h1 h2 h3 =>
    have := Step.str (v := u) (n := N) (i := o + i) (e := o + e) (by omega) (by rw [hu i h1]; exact h2) (by rw [Nat.add_assoc]; exact h3.shift (by omega) hu)
    rwa [Nat.add_sub_add_left] at this
  | num h1 h2 h3 h4 h5 h6 h7 =>
    refine .num (by omega) (by rw [hu i h1]; exact h2) (by omega) (by omega) (fun k k1 k2 => ?_) (fun _ => ?_) (h7.shift fun k k1 k2 => hu k (by omega))
    · obtain ⟨m, rfl⟩ : ∃ m, k = o + m := ⟨k - o, by omega⟩
      rw [hu m (by omega)]; exact h5 m (by omega) (by omega)
    · rcases Nat.lt_or_ge e n with h | h
      · rw [hu e h]; exact h6 h
      · obtain rfl : e = n := by omega
        exact hend
  | space h1 h2 =>
    have := Step.space (v := u) (n := N) (i := o + i) (by omega) (by rw [hu i h1]; exact h2)
    exact this
  | other h1 h2 h3 h4 h5 =>
    have := Step.other (v := u) (n := N) (i := o + i) (by omega) (by rw [hu i h1]; exact h2) (by rw [hu i h1]; exact h3) (by rw [hu i h1]; exact h4) (by rw [hu i h1]; exact h5)
    exact this
theorem Reach.shift {u v : Nat → Nat} {n N o i : Nat} {s s0 : Int} (hN : o + n < N) (hu : ∀ k, k < n → u (o + k) = v k) (hend : ¬ NumCh (u (o + n))) (h0 : Reach u N o s0) (h : Reach v n i s) : Reach u N (o + i) (s0 + s) := by
  induction h with
  | start => rw [Int.add_zero]; exact h0
  | step h1 h2 ih => rw [← Int.add_assoc]; exact ih.step (h2.shift hN hu hend)

/-- The list's bytes. -/
def join (na nb : Nat) (va vb : Nat → Nat) (k : Nat) : Nat :=
  if k = 0 then 91 else if k < 1 + na then va (k - 1) else if k = 1 + na then 44 else if k < 2 + na + nb then vb (k - (2 + na)) else 93
theorem join_0 (na nb : Nat) (va vb : Nat → Nat) : join na nb va vb 0 = 91 := rfl
theorem join_a (na nb : Nat) (va vb : Nat → Nat) (k : Nat) (h : k < na) : join na nb va vb (1 + k) = va k := by
  unfold join
  rw [if_neg (by omega), if_pos (by omega)]
  congr 1; omega
theorem join_c (na nb : Nat) (va vb : Nat → Nat) : join na nb va vb (1 + na) = 44 := by
  unfold join
  rw [if_neg (by omega), if_neg (by omega), if_pos rfl]
theorem join_b (na nb : Nat) (va vb : Nat → Nat) (k : Nat) (h : k < nb) : join na nb va vb (2 + na + k) = vb k := by
  unfold join
  rw [if_neg (by omega), if_neg (by omega), if_neg (by omega), if_pos (by omega)]
  congr 1; omega
theorem join_z (na nb : Nat) (va vb : Nat → Nat) : join na nb va vb (2 + na + nb) = 93 := by
  unfold join
  rw [if_neg (by omega), if_neg (by omega), if_neg (by omega), if_neg (by omega)]
theorem join_small {na nb : Nat} {va vb : Nat → Nat} (ha : ∀ i, va i < 256) (hb : ∀ i, vb i < 256) (k : Nat) : join na nb va vb k < 256 := by
  unfold join
  split
  · omega
  · split
    · exact ha _
    · split
      · omega
      · split
        · exact hb _
        · omega
theorem join_tok {na nb : Nat} {va vb : Nat → Nat} {sa sb : Int} (ha : Reach va na na sa) (hb : Reach vb nb nb sb) : Tok (join na nb va vb) (na + nb + 3) 0 (sa + sb + 3) := by
  have r0 : Reach (join na nb va vb) (na + nb + 3) (0 + 1) (0 + 1) := Reach.start.one (by omega) (join_0 na nb va vb) (by omega) (by omega) (by omega) (by omega)
  have n1 : ¬ NumCh (join na nb va vb (0 + 1 + na)) := by rw [show 0 + 1 + na = 1 + na by omega, join_c]; unfold NumCh Dg; omega
  have r1 := r0.shift (n := na) (v := va) (by omega) (fun k hk => by rw [show 0 + 1 + k = 1 + k by omega]; exact join_a na nb va vb k hk) n1 ha
  have r2 := r1.one (c := 44) (by omega) (by rw [show 0 + 1 + na = 1 + na by omega]; exact join_c na nb va vb) (by omega) (by omega) (by omega) (by omega)
  have n2 : ¬ NumCh (join na nb va vb (0 + 1 + na + 1 + nb)) := by rw [show 0 + 1 + na + 1 + nb = 2 + na + nb by omega, join_z]; unfold NumCh Dg; omega
  have r3 := r2.shift (n := nb) (v := vb) (by omega) (fun k hk => by rw [show 0 + 1 + na + 1 + k = 2 + na + k by omega]; exact join_b na nb va vb k hk) n2 hb
  have r4 := r3.one (c := 93) (by omega) (by rw [show 0 + 1 + na + 1 + nb = 2 + na + nb by omega]; exact join_z na nb va vb) (by omega) (by omega) (by omega) (by omega)
  have e1 : 0 + 1 + na + 1 + nb + 1 = na + nb + 3 := by omega
  have e2 : (0 + 1 + sa + 1 + sb + 1 : Int) = sa + sb + 3 := by omega
  rw [e1, e2] at r4
  exact r4.all
end Go.Proofs.Qxb6602476a.Plain
