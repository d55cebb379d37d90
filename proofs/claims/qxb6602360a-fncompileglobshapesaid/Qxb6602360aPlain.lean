/-
  SETS OF BYTES as four words: no run of the model in this text.
-/
namespace Go.Proofs.Qxb6602360a.Plain

structure S4 where
  a : Nat
  b : Nat
  c : Nat
  d : Nat

def S4.word (s : S4) : Nat → Nat
  | 0 => s.a
  | 1 => s.b
  | 2 => s.c
  | _ => s.d
def S4.put (s : S4) (i x : Nat) : S4 :=
  match i with
  | 0 => { s with a := x }
  | 1 => { s with b := x }
  | 2 => { s with c := x }
  | _ => { s with d := x }
/-- Each word fits 64 bits. -/
def S4.ok (s : S4) : Prop := s.a < 18446744073709551616 ∧ s.b < 18446744073709551616 ∧ s.c < 18446744073709551616 ∧ s.d < 18446744073709551616
def S4.has (s : S4) (x : Nat) : Bool := (s.word (x / 64)).testBit (x % 64)
def S4.add (s : S4) (x : Nat) : S4 := s.put (x / 64) (s.word (x / 64) ||| 2 ^ (x % 64))
def S4.remove (s : S4) (x : Nat) : S4 := s.put (x / 64) (s.word (x / 64) &&& (18446744073709551615 - 2 ^ (x % 64)))
def S4.zero : S4 := ⟨0, 0, 0, 0⟩
def S4.full : S4 := ⟨18446744073709551615, 18446744073709551615, 18446744073709551615, 18446744073709551615⟩

theorem S4.word_put (s : S4) (i j x : Nat) (hi : i < 4) (hj : j < 4) : (s.put i x).word j = if i = j then x else s.word j := by
  match i, j, hi, hj with
  | 0, 0, _, _ => rfl
  | 0, 1, _, _ => rfl
  | 0, 2, _, _ => rfl
  | 0, 3, _, _ => rfl
  | 1, 0, _, _ => rfl
  | 1, 1, _, _ => rfl
  | 1, 2, _, _ => rfl
  | 1, 3, _, _ => rfl
  | 2, 0, _, _ => rfl
  | 2, 1, _, _ => rfl
  | 2, 2, _, _ => rfl
  | 2, 3, _, _ => rfl
  | 3, 0, _, _ => rfl
  | 3, 1, _, _ => rfl
  | 3, 2, _, _ => rfl
  | 3, 3, _, _ => rfl
  | _ + 4, _, h, _ => omega
  | _, _ + 4, _, h => omega

theorem S4.ok_word {s : S4} (h : s.ok) (i : Nat) : s.word i < 18446744073709551616 := by
  obtain ⟨h1, h2, h3, h4⟩ := h
  match i with
  | 0 => exact h1
  | 1 => exact h2
  | 2 => exact h3
  | _ + 3 => exact h4
theorem S4.ok_of {s : S4} (h : ∀ i, i < 4 → s.word i < 18446744073709551616) : s.ok := ⟨h 0 (by omega), h 1 (by omega), h 2 (by omega), h 3 (by omega)⟩
theorem S4.ok_put {s : S4} (h : s.ok) (i x : Nat) (hi : i < 4) (hx : x < 18446744073709551616) : (s.put i x).ok := by
  refine S4.ok_of fun j hj => ?_
  rw [S4.word_put s i j x hi hj]
  split
  · exact hx
  · exact S4.ok_word h j

theorem pow_lt (k : Nat) (h : k < 64) : 2 ^ k < 18446744073709551616 := Nat.pow_lt_pow_right (by omega) h
theorem S4.ok_add {s : S4} (h : s.ok) (x : Nat) (hx : x < 256) : (s.add x).ok :=
  S4.ok_put h _ _ (by omega) (Nat.or_lt_two_pow (n := 64) (S4.ok_word h _) (pow_lt _ (by omega)))
theorem S4.ok_remove {s : S4} (h : s.ok) (x : Nat) (hx : x < 256) : (s.remove x).ok :=
  S4.ok_put h _ _ (by omega) (Nat.lt_of_le_of_lt Nat.and_le_left (S4.ok_word h _))

theorem S4.has_add (s : S4) (x y : Nat) (hx : x < 256) (hy : y < 256) : (s.add x).has y = (s.has y || decide (x = y)) := by
  unfold S4.has S4.add
  rw [S4.word_put _ _ _ _ (by omega) (by omega)]
  split
  · rename_i e
    rw [Nat.testBit_or, Nat.testBit_two_pow, e]
    congr 1
    rw [decide_eq_decide]; omega
  · rename_i e
    have : decide (x = y) = false := decide_eq_false (fun h => e (by rw [h]))
    rw [this, Bool.or_false]

theorem S4.has_remove (s : S4) (x y : Nat) (hx : x < 256) (hy : y < 256) : (s.remove x).has y = (s.has y && !decide (x = y)) := by
  unfold S4.has S4.remove
  rw [S4.word_put _ _ _ _ (by omega) (by omega)]
  split
  · rename_i e
    have e2 : 18446744073709551615 - 2 ^ (x % 64) = 2 ^ 64 - (2 ^ (x % 64) + 1) := by omega
    rw [Nat.testBit_and, e2, Nat.testBit_two_pow_sub_succ (pow_lt _ (by omega)), Nat.testBit_two_pow, e]
    have : decide (y % 64 < 64) = true := decide_eq_true (by omega)
    rw [this, Bool.true_and]
    congr 2
    rw [decide_eq_decide]; omega
  · rename_i e
    have : decide (x = y) = false := decide_eq_false (fun h => e (by rw [h]))
    rw [this, Bool.not_false, Bool.and_true]

theorem S4.ext_has {s t : S4} (hs : s.ok) (ht : t.ok) (h : ∀ x, x < 256 → s.has x = t.has x) : s = t := by
  have hw : ∀ i, i < 4 → s.word i = t.word i := by
    intro i hi
    refine Nat.eq_of_testBit_eq fun j => ?_
    by_cases hj : j < 64
    · have := h (64 * i + j) (by omega)
      unfold S4.has at this
      rw [show (64 * i + j) / 64 = i by omega, show (64 * i + j) % 64 = j by omega] at this
      exact this
    · have k : ∀ n : Nat, n < 18446744073709551616 → n.testBit j = false := fun n hn =>
        Nat.testBit_lt_two_pow (Nat.lt_of_lt_of_le hn (by rw [show 18446744073709551616 = 2 ^ 64 by rfl]; exact Nat.pow_le_pow_right (by omega) (by omega)))
      rw [k _ (S4.ok_word hs i), k _ (S4.ok_word ht i)]
  obtain ⟨a, b, c, d⟩ := s
  obtain ⟨a', b', c', d'⟩ := t
  have h0 := hw 0 (by omega); have h1 := hw 1 (by omega); have h2 := hw 2 (by omega); have h3 := hw 3 (by omega)
  simp only [S4.word] at h0 h1 h2 h3
  rw [h0, h1, h2, h3]

theorem S4.ok_zero : S4.zero.ok := ⟨by decide, by decide, by decide, by decide⟩
theorem S4.ok_full : S4.full.ok := ⟨by decide, by decide, by decide, by decide⟩
theorem S4.has_zero (x : Nat) : S4.zero.has x = false := by
  unfold S4.has S4.zero S4.word
  split <;> exact Nat.zero_testBit _
theorem S4.has_full (x : Nat) : S4.full.has x = true := by
  have k : (18446744073709551615 : Nat).testBit (x % 64) = true := by
    have e : 18446744073709551615 = 2 ^ 64 - 1 := by rfl
    rw [e, Nat.testBit_two_pow_sub_one]
    exact decide_eq_true (by omega)
  unfold S4.has S4.full S4.word
  split <;> exact k

/-- All bytes but '/'. -/
def S4.notSlash : S4 := S4.full.remove 47
/-- '/' alone. -/
def S4.slash : S4 := S4.zero.add 47
/-- A letter's other case; letters alone have one. -/
def letter (x : Nat) : Bool := (decide (97 ≤ x) && decide (x ≤ 122)) || (decide (65 ≤ x) && decide (x ≤ 90))
def other (x : Nat) : Nat := if 97 ≤ x ∧ x ≤ 122 then x - 32 else x + 32
/-- What the byte x becomes as a step. -/
def lit (fc : Bool) (x : Nat) : S4 := if fc && letter x then (S4.zero.add x).add (other x) else S4.zero.add x

theorem letter_other {x : Nat} (h : letter x = true) : other x < 256 ∧ letter (other x) = true ∧ other (other x) = x ∧ other x ≠ x := by
  unfold letter at h
  simp only [Bool.or_eq_true, Bool.and_eq_true, decide_eq_true_eq] at h
  unfold other letter
  rcases h with h | h
  · rw [if_pos h]
    refine ⟨by omega, ?_, ?_, by omega⟩
    · simp only [Bool.or_eq_true, Bool.and_eq_true, decide_eq_true_eq]; omega
    · rw [if_neg (by omega)]; omega
  · rw [if_neg (by omega)]
    refine ⟨by omega, ?_, ?_, by omega⟩
    · simp only [Bool.or_eq_true, Bool.and_eq_true, decide_eq_true_eq]; omega
    · rw [if_pos (by omega)]; omega

theorem ok_lit (fc : Bool) (x : Nat) (hx : x < 256) : (lit fc x).ok := by
  unfold lit
  split
  · rename_i h
    simp only [Bool.and_eq_true] at h
    exact S4.ok_add (S4.ok_add S4.ok_zero x hx) _ (letter_other h.2).1
  · exact S4.ok_add S4.ok_zero x hx

theorem has_lit (fc : Bool) (x y : Nat) (hx : x < 256) (hy : y < 256) : (lit fc x).has y = (decide (x = y) || (fc && letter x && decide (other x = y))) := by
  unfold lit
  split
  · rename_i h
    have h' := h
    simp only [Bool.and_eq_true] at h'
    rw [S4.has_add _ _ _ (letter_other h'.2).1 hy, S4.has_add _ _ _ hx hy, S4.has_zero, Bool.false_or, h, Bool.true_and]
  · rename_i h
    rw [S4.has_add _ _ _ hx hy, S4.has_zero, Bool.false_or]
    have : (fc && letter x) = false := by simpa using h
    rw [this, Bool.false_and, Bool.or_false]

/-- Only '/' itself becomes a set with '/', and that set is '/' alone. -/
theorem lit_slash (fc : Bool) (x : Nat) (hx : x < 256) (h : (lit fc x).has 47 = true) : lit fc x = S4.slash := by
  rw [has_lit fc x 47 hx (by omega)] at h
  simp only [Bool.or_eq_true, Bool.and_eq_true, decide_eq_true_eq] at h
  rcases h with h | ⟨⟨_, h1⟩, h2⟩
  · subst h
    unfold lit
    rw [if_neg (by cases fc <;> decide)]
    rfl
  · have := (letter_other h1).2.1
    rw [h2] at this
    exact absurd this (by decide)
theorem lit_47 (fc : Bool) : lit fc 47 = S4.slash := by
  unfold lit
  rw [if_neg (by cases fc <;> decide)]
  rfl

end Go.Proofs.Qxb6602360a.Plain
