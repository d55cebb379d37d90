/-
  THE PLAIN LAW: what storedSize counts, over bytes v 0 .. v (n - 1).
-/
import Derived.Test.Qxb6602476aProg
namespace Go.Proofs.Qxb6602476a.Plain

def Dg (c : Nat) : Prop := 48 ≤ c ∧ c ≤ 57
def Nz (c : Nat) : Prop := 49 ≤ c ∧ c ≤ 57
def NumCh (c : Nat) : Prop := Dg c ∨ c = 43 ∨ c = 45 ∨ c = 46 ∨ c = 101 ∨ c = 69
def Sp (c : Nat) : Prop := c = 32 ∨ c = 9 ∨ c = 10 ∨ c = 13

/-- From place j within a string: its end (behind the closing quote) is e. -/
inductive StrEnd (v : Nat → Nat) (n : Nat) : Nat → Nat → Prop
  | quote {j : Nat} : j < n → v j = 34 → StrEnd v n j (j + 1)
  | esc {j e : Nat} : j < n → v j = 92 → StrEnd v n (j + 2) e → StrEnd v n j e
  | other {j e : Nat} : j < n → v j ≠ 34 → v j ≠ 92 → StrEnd v n (j + 1) e → StrEnd v n j e

theorem StrEnd.bound {v : Nat → Nat} {n j e : Nat} (h : StrEnd v n j e) : j < e ∧ e ≤ n := by
  induction h with
  | quote h1 h2 => omega
  | esc h1 h2 h3 ih => omega
  | other h1 h2 h3 h4 ih => omega
theorem StrEnd.lt {v : Nat → Nat} {n j e : Nat} (h : StrEnd v n j e) : j < n := by cases h <;> assumption

/-- The exponent's digits from z, the first l of them, held below 2^30. -/
def clampE (v : Nat → Nat) (z : Nat) : Nat → Nat
  | 0 => 0
  | l + 1 => min (clampE v z l * 10 + (v (z + l) - 48)) 1073741824
theorem clampE_le (v : Nat → Nat) (z l : Nat) : clampE v z l ≤ 1073741824 := by
  cases l with
  | zero => simp [clampE]
  | succ l => simp [clampE]; omega

/-- Where the mantissa's first digit other than 0 stands among its digits: m the first digit's place, p the place behind the integer part, q the place behind the mantissa. -/
def Fst (v : Nat → Nat) (m p q : Nat) (has : Bool) (first : Nat) : Prop :=
  (has = true ∧ ∃ f, m ≤ f ∧ f < q ∧ Nz (v f) ∧ (∀ k, m ≤ k → k < f → ¬ Nz (v k)) ∧ first = if p < f then f - m - 1 else f - m) ∨
  (has = false ∧ ∀ k, m ≤ k → k < q → ¬ Nz (v k))

/-- The exponent behind q: none, or a sign and digits. -/
inductive Expo (v : Nat → Nat) (q e : Nat) : Int → Prop
  | none : e = q → Expo v q e 0
  | plain : (v q = 101 ∨ v q = 69) → q + 1 < e → (∀ k, q + 1 ≤ k → k < e → Dg (v k)) → Expo v q e (clampE v (q + 1) (e - (q + 1)))
  | plus : (v q = 101 ∨ v q = 69) → v (q + 1) = 43 → q + 2 < e → (∀ k, q + 2 ≤ k → k < e → Dg (v k)) → Expo v q e (clampE v (q + 2) (e - (q + 2)))
  | minus : (v q = 101 ∨ v q = 69) → v (q + 1) = 45 → q + 2 < e → (∀ k, q + 2 ≤ k → k < e → Dg (v k)) → Expo v q e (-(clampE v (q + 2) (e - (q + 2)) : Nat))

/-- A number of the grammar lies at i .. e: its sign, its integer part m .. p, its fraction p .. q, its exponent X. -/
structure Gram (v : Nat → Nat) (i e : Nat) (neg : Bool) (m p q : Nat) (X : Int) : Prop where
  sign : (neg = true ∧ v i = 45 ∧ m = i + 1) ∨ (neg = false ∧ v i ≠ 45 ∧ m = i)
  int : m < p
  digits : ∀ k, m ≤ k → k < p → Dg (v k)
  frac : q = p ∨ (v p = 46 ∧ p + 1 < q ∧ ∀ k, p + 1 ≤ k → k < q → Dg (v k))
  expo : Expo v q e X

/-- The digits behind the point. -/
def fracOf (p q : Nat) : Nat := q - p - 1
/-- The count of a number. -/
def NS (neg has : Bool) (int frac first : Nat) (X : Int) : Int :=
  (if has = true ∧ (first : Int) < int + X then int + X - first else 1) + (if neg = true ∧ has = true then 1 else 0) + (if 0 < (frac : Int) - X then 1 + (frac - X) else 0)
/-- The number at i .. e counts r. -/
def NumSz (v : Nat → Nat) (i e : Nat) (r : Int) : Prop :=
  ∃ neg m p q X has first, Gram v i e neg m p q X ∧ Fst v m p q has first ∧ r = NS neg has (p - m) (fracOf p q) first X

/-- One step of storedSize: from i to e, at the cost r. -/
inductive Step (v : Nat → Nat) (n : Nat) : Nat → Nat → Int → Prop
  | str {i e : Nat} : i < n → v i = 34 → StrEnd v n (i + 1) e → Step v n i e (e - i : Nat)
  | num {i e : Nat} {r : Int} : i < n → (v i = 45 ∨ Dg (v i)) → i < e → e ≤ n → (∀ k, i < k → k < e → NumCh (v k)) → (e < n → ¬ NumCh (v e)) → NumSz v i e r → Step v n i e r
  | space {i : Nat} : i < n → Sp (v i) → Step v n i (i + 1) 0
  | other {i : Nat} : i < n → v i ≠ 34 → v i ≠ 45 → ¬ Dg (v i) → ¬ Sp (v i) → Step v n i (i + 1) 1

/-- storedSize's loop comes to i with s. -/
inductive Reach (v : Nat → Nat) (n : Nat) : Nat → Int → Prop
  | start : Reach v n 0 0
  | step {i e : Nat} {s r : Int} : Reach v n i s → Step v n i e r → Reach v n e (s + r)
/-- From i the rest counts r. -/
inductive Tok (v : Nat → Nat) (n : Nat) : Nat → Int → Prop
  | done : Tok v n n 0
  | step {i e : Nat} {s r : Int} : Step v n i e r → Tok v n e s → Tok v n i (r + s)

theorem Step.bound {v : Nat → Nat} {n i e : Nat} {r : Int} (h : Step v n i e r) : i < e ∧ e ≤ n := by
  cases h with
  | str h1 h2 h3 => have := h3.bound; omega
  | num h1 h2 h3 h4 => omega
  | space h1 => omega
  | other h1 => omega
theorem Reach.tok {v : Nat → Nat} {n i : Nat} {s : Int} (h : Reach v n i s) : ∀ {r : Int}, Tok v n i r → Tok v n 0 (s + r) := by
  induction h with
  | start => intro r hr; rw [Int.zero_add]; exact hr
  | step h1 h2 ih => intro r hr; rw [Int.add_assoc]; exact ih (.step h2 hr)
theorem Reach.all {v : Nat → Nat} {n : Nat} {s : Int} (h : Reach v n n s) : Tok v n 0 s := by
  have := h.tok .done
  rwa [Int.add_zero] at this

end Go.Proofs.Qxb6602476a.Plain
