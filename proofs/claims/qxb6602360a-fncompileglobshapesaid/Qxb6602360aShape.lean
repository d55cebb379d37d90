/-
  THE SHAPE OF A COMPILED PATTERN: plain laws over lists of steps.
-/
import Derived.Test.Qxb6602360aLiteral
import Derived.Test.Qxb6602360aParse
namespace Go.Proofs.Qxb6602360a
open Go.RowKit Plain

/-- Step k of L is as the law wants it. -/
def OkAt (L : List Step) (k : Nat) (st : Step) : Prop :=
  st.set.ok ∧
  (st.loop = true → st.fork = 0 ∧ (st.set = S4.full ∨ st.set = S4.notSlash)) ∧
  (st.loop = false → st.fork ≠ 0 → st.fork = k + 3 ∧ st.set = S4.zero ∧ L[k + 1]? = some ⟨S4.full, true, 0⟩ ∧ L[k + 2]? = some ⟨S4.slash, false, 0⟩) ∧
  (st.loop = false → st.fork = 0 → st.set.has 47 = true → st.set = S4.slash)
def Good (L : List Step) : Prop := ∀ k st, L[k]? = some st → OkAt L k st

theorem good_nil : Good [] := fun k st h => by simp at h

theorem OkAt.app {L M : List Step} {k : Nat} {st : Step} (h : OkAt L k st) : OkAt (L ++ M) k st := by
  obtain ⟨h0, h1, h2, h3⟩ := h
  refine ⟨h0, h1, fun a b => ?_, h3⟩
  obtain ⟨e1, e2, e3, e4⟩ := h2 a b
  have l1 : k + 1 < L.length := (List.getElem?_eq_some_iff.1 e3).1
  have l2 : k + 2 < L.length := (List.getElem?_eq_some_iff.1 e4).1
  exact ⟨e1, e2, by rw [List.getElem?_append_left l1]; exact e3, by rw [List.getElem?_append_left l2]; exact e4⟩

/-- One step more, which is no fork. -/
theorem Good.one {L : List Step} (h : Good L) {t : S4} {lp : Bool} (ht : t.ok) (h1 : lp = true → t = S4.full ∨ t = S4.notSlash) (h2 : lp = false → t.has 47 = true → t = S4.slash) : Good (L ++ [⟨t, lp, 0⟩]) := by
  intro k st hk
  by_cases hl : k < L.length
  · rw [List.getElem?_append_left hl] at hk
    exact (h k st hk).app
  · rw [List.getElem?_append_right (by omega)] at hk
    have hk0 : k - L.length = 0 := by
      rcases Nat.eq_zero_or_pos (k - L.length) with e | e
      · exact e
      · rw [List.getElem?_eq_none (by simp; omega)] at hk; cases hk
    rw [hk0] at hk
    simp at hk
    subst hk
    exact ⟨ht, fun a => ⟨rfl, h1 a⟩, fun _ b => absurd rfl b, fun a _ c => h2 a c⟩

/-- A fork, its loop and its slash. -/
theorem Good.fork {L : List Step} (h : Good L) : Good (L ++ [⟨S4.zero, false, L.length + 3⟩, ⟨S4.full, true, 0⟩] ++ [⟨S4.slash, false, 0⟩]) := by
  rw [List.append_assoc]
  intro k st hk
  by_cases hl : k < L.length
  · rw [List.getElem?_append_left hl] at hk
    exact (h k st hk).app
  · rw [List.getElem?_append_right (by omega)] at hk
    obtain ⟨j, rfl⟩ : ∃ j, k = L.length + j := ⟨k - L.length, by omega⟩
    rw [show L.length + j - L.length = j by omega] at hk
    match j, hk with
    | 0, hk =>
      simp at hk; subst hk
      refine ⟨S4.ok_zero, fun a => (by cases a), fun _ _ => ⟨rfl, rfl, ?_, ?_⟩, fun _ b => absurd b (by simp)⟩
      · rw [List.getElem?_append_right (by omega)]; simp
      · rw [List.getElem?_append_right (by omega)]; simp
    | 1, hk =>
      simp at hk; subst hk
      exact ⟨S4.ok_full, fun _ => ⟨rfl, Or.inl rfl⟩, fun a => (by cases a), fun a => (by cases a)⟩
    | 2, hk =>
      simp at hk; subst hk
      exact ⟨S4.ok_add S4.ok_zero 47 (by omega), fun a => (by cases a), fun _ b => absurd rfl b, fun _ _ _ => rfl⟩
    | j + 3, hk => simp at hk

/-- None of the first i bytes is special. -/
def NoSp (s : ByteArray) (i : Nat) : Prop := ∀ k, k < i → bt s k ≠ 42 ∧ bt s k ≠ 63 ∧ bt s k ≠ 91 ∧ bt s k ≠ 92
def lits (fc : Bool) (s : ByteArray) (i : Nat) : List Step := (List.range i).map fun k => ⟨lit fc (bt s k), false, 0⟩
theorem lits_succ (fc : Bool) (s : ByteArray) (i : Nat) : lits fc s (i + 1) = lits fc s i ++ [⟨lit fc (bt s i), false, 0⟩] := by
  simp [lits, List.range_succ]

/-- What the compiler knows at place i. -/
structure CI (fc : Bool) (s : ByteArray) (i : Nat) (L : List Step) : Prop where
  le : i ≤ s.size
  len : L.length ≤ i
  good : Good L
  plain : NoSp s i → L = lits fc s i

theorem CI.start (fc : Bool) (s : ByteArray) : CI fc s 0 [] := ⟨Nat.zero_le _, Nat.le_refl _, good_nil, fun _ => rfl⟩
/-- A plain byte. -/
theorem CI.byte {fc : Bool} {s : ByteArray} {i : Nat} {L : List Step} (h : CI fc s i L) (hi : i < s.size) : CI fc s (i + 1) (L ++ [⟨lit fc (bt s i), false, 0⟩]) :=
  ⟨by omega, by have := h.len; simp; omega, h.good.one (ok_lit fc _ (bt_lt s i)) (fun a => (by cases a)) (fun _ b => lit_slash fc _ (bt_lt s i) b),
    fun hn => by rw [lits_succ, h.plain (fun k hk => hn k (by omega))]⟩
/-- One step for some bytes, the first of them special. -/
theorem CI.special {fc : Bool} {s : ByteArray} {i j : Nat} {L : List Step} (h : CI fc s i L) (hij : i < j) (hj : j ≤ s.size) (hs : bt s i = 42 ∨ bt s i = 63 ∨ bt s i = 91 ∨ bt s i = 92)
    {t : S4} {lp : Bool} (ht : t.ok) (h1 : lp = true → t = S4.full ∨ t = S4.notSlash) (h2 : lp = false → t.has 47 = true → t = S4.slash) : CI fc s j (L ++ [⟨t, lp, 0⟩]) :=
  ⟨hj, by have := h.len; simp; omega, h.good.one ht h1 h2, fun hn => by have := hn i hij; omega⟩
theorem CI.fork {fc : Bool} {s : ByteArray} {i j : Nat} {L : List Step} (h : CI fc s i L) (hij : i + 3 ≤ j) (hj : j ≤ s.size) (hs : bt s i = 42) :
    CI fc s j (L ++ [⟨S4.zero, false, L.length + 3⟩, ⟨S4.full, true, 0⟩] ++ [⟨S4.slash, false, 0⟩]) :=
  ⟨hj, by have := h.len; simp; omega, h.good.fork, fun hn => by have := hn i (by omega); omega⟩

theorem ns_no : S4.notSlash.has 47 = false := by
  unfold S4.notSlash; rw [S4.has_remove _ _ _ (by omega) (by omega)]; simp
theorem ns_ok : S4.notSlash.ok := S4.ok_remove S4.ok_full 47 (by omega)

end Go.Proofs.Qxb6602360a
