/-
  FOLDING CASE: plain laws, and the walks of foldCase and invert.
-/
import Derived.Test.Qxb6602360aSet
import Derived.Deep.LoopGhost
namespace Go.Proofs.Qxb6602360a
open Go.RowKit Plain

def low (y : Nat) : Nat := if 97 ≤ y ∧ y ≤ 122 then y else y + 32
/-- Of the letters those whose lower case comes before b are folded. -/
def FoldAt (s s' : S4) (b : Nat) : Prop := s'.ok ∧ ∀ y, y < 256 → s'.has y = (s.has y || (letter y && s.has (other y) && decide (low y < b)))

theorem letter_iff (y : Nat) : letter y = true ↔ (97 ≤ y ∧ y ≤ 122) ∨ (65 ≤ y ∧ y ≤ 90) := by
  unfold letter; simp only [Bool.or_eq_true, Bool.and_eq_true, decide_eq_true_eq]
theorem not_letter {y : Nat} (h : ¬ ((97 ≤ y ∧ y ≤ 122) ∨ (65 ≤ y ∧ y ≤ 90))) : letter y = false := by
  cases e : letter y with
  | false => rfl
  | true => exact absurd ((letter_iff y).1 e) h

theorem FoldAt.start {s : S4} (h : s.ok) : FoldAt s s 97 := by
  refine ⟨h, fun y hy => ?_⟩
  by_cases hl : (97 ≤ y ∧ y ≤ 122) ∨ (65 ≤ y ∧ y ≤ 90)
  · have : decide (low y < 97) = false := decide_eq_false (by unfold low; split <;> omega)
    rw [this, Bool.and_false, Bool.or_false]
  · rw [not_letter hl, Bool.false_and, Bool.false_and, Bool.or_false]

theorem FoldAt.at_lower {s s' : S4} {b : Nat} (h : FoldAt s s' b) (h1 : 97 ≤ b) (h2 : b ≤ 122) : s'.has b = s.has b := by
  rw [h.2 b (by omega)]
  have : decide (low b < b) = false := decide_eq_false (by unfold low; rw [if_pos ⟨h1, h2⟩]; omega)
  rw [this, Bool.and_false, Bool.or_false]
theorem FoldAt.at_upper {s s' : S4} {b : Nat} (h : FoldAt s s' b) (h1 : 97 ≤ b) (h2 : b ≤ 122) : s'.has (b - 32) = s.has (b - 32) := by
  rw [h.2 (b - 32) (by omega)]
  have : decide (low (b - 32) < b) = false := decide_eq_false (by unfold low; rw [if_neg (by omega)]; omega)
  rw [this, Bool.and_false, Bool.or_false]

theorem FoldAt.hit {s s' : S4} {b : Nat} (h : FoldAt s s' b) (h1 : 97 ≤ b) (h2 : b ≤ 122) (hh : (s.has b || s.has (b - 32)) = true) : FoldAt s ((s'.add b).add (b - 32)) (b + 1) := by
  refine ⟨S4.ok_add (S4.ok_add h.1 b (by omega)) _ (by omega), fun y hy => ?_⟩
  rw [S4.has_add _ _ _ (by omega) hy, S4.has_add _ _ _ (by omega) hy, h.2 y hy]
  by_cases e : y = b
  · subst e
    have hl : letter y = true := (letter_iff y).2 (Or.inl ⟨h1, h2⟩)
    have ho : other y = y - 32 := by unfold other; rw [if_pos ⟨h1, h2⟩]
    have hd : decide (low y < y + 1) = true := decide_eq_true (by unfold low; rw [if_pos ⟨h1, h2⟩]; omega)
    rw [hl, ho, hd, decide_eq_true (rfl : y = y)]
    revert hh; cases s.has y <;> cases s.has (y - 32) <;> simp
  by_cases e2 : y = b - 32
  · have hl : letter y = true := (letter_iff y).2 (Or.inr ⟨by omega, by omega⟩)
    have ho : other y = b := by unfold other; rw [if_neg (by omega)]; omega
    have hd : decide (low y < b + 1) = true := decide_eq_true (by unfold low; rw [if_neg (by omega)]; omega)
    rw [hl, ho, hd, ← e2, decide_eq_true (rfl : y = y)]
    rw [← e2] at hh
    revert hh; cases s.has y <;> cases s.has b <;> simp
  · have d1 : decide (b = y) = false := decide_eq_false (fun c => e c.symm)
    have d2 : decide (b - 32 = y) = false := decide_eq_false (fun c => e2 c.symm)
    rw [d1, d2, Bool.or_false, Bool.or_false]
    by_cases hl : (97 ≤ y ∧ y ≤ 122) ∨ (65 ≤ y ∧ y ≤ 90)
    · have : decide (low y < b) = decide (low y < b + 1) := by
        rw [decide_eq_decide]; unfold low; split <;> omega
      rw [this]
    · rw [not_letter hl]; simp

theorem FoldAt.miss {s s' : S4} {b : Nat} (h : FoldAt s s' b) (h1 : 97 ≤ b) (h2 : b ≤ 122) (hh : (s.has b || s.has (b - 32)) = false) : FoldAt s s' (b + 1) := by
  refine ⟨h.1, fun y hy => ?_⟩
  rw [h.2 y hy]
  have hb : s.has b = false := by revert hh; cases s.has b <;> simp
  have hu : s.has (b - 32) = false := by revert hh; cases s.has (b - 32) <;> simp
  by_cases e : y = b
  · subst e
    have ho : other y = y - 32 := by unfold other; rw [if_pos ⟨h1, h2⟩]
    rw [ho, hu]; simp
  by_cases e2 : y = b - 32
  · have ho : other y = b := by unfold other; rw [if_neg (by omega)]; omega
    rw [ho, hb]; simp
  · by_cases hl : (97 ≤ y ∧ y ≤ 122) ∨ (65 ≤ y ∧ y ≤ 90)
    · have : decide (low y < b) = decide (low y < b + 1) := by
        rw [decide_eq_decide]; unfold low; split <;> omega
      rw [this]
    · rw [not_letter hl]; simp

/-- A single byte, folded, is its literal. -/
theorem fold_lit {x : Nat} (hx : x < 256) {s' : S4} (h : FoldAt (S4.zero.add x) s' 123) : s' = lit true x := by
  refine S4.ext_has h.1 (ok_lit true x hx) fun y hy => ?_
  rw [h.2 y hy, has_lit true x y hx hy, S4.has_add _ _ _ hx hy, S4.has_zero, Bool.false_or]
  congr 1
  by_cases hl : letter y = true
  · have ho := letter_other hl
    rw [S4.has_add _ _ _ hx ho.1, S4.has_zero, Bool.false_or, hl, Bool.true_and, Bool.true_and]
    have hd : decide (low y < 123) = true := decide_eq_true (by have := (letter_iff y).1 hl; unfold low; split <;> omega)
    rw [hd, Bool.and_true]
    by_cases e : x = other y
    · subst e
      rw [ho.2.1, ho.2.2.1]; simp
    · rw [decide_eq_false e]
      cases hx' : letter x with
      | false => rfl
      | true =>
        have := (letter_other hx').2.2.1
        rw [Bool.true_and]
        symm
        exact decide_eq_false fun c => e (by rw [← c, this])
  · have hl' : letter y = false := by simpa using hl
    rw [hl', Bool.false_and, Bool.false_and]
    cases hx' : letter x with
    | false => simp
    | true =>
      symm
      rw [Bool.true_and, Bool.true_and]
      refine decide_eq_false fun c => ?_
      have := (letter_other hx').2.1
      rw [c] at this; exact hl this

set_option maxRecDepth 1000000 in
set_option maxHeartbeats 2000000 in
theorem fold_any (blk : Nat) (t : TypeId) (s : S4) (hs : s.ok) (w : World) (h : HSet w blk t s) :
    Calls Try.prog 52 #[.pointer (some ⟨blk, 0, none⟩)] w fun e w' => e = .returned (.tuple #[]) ∧ ∃ s', FoldAt s s' 123 ∧ HSet w' blk t s' ∧ Upd blk w w' := by
  have H : Hid (HSet w blk t s) := h
  have HS : Hid s.ok := hs
  clear h hs
  go_enter Try.func52, Try.ntmps52
  go_wp2
  go_loopg [2] 26 (fun g v wr => ∃ (b : Nat) (s' : S4), b + g = 123 ∧ 97 ≤ b ∧ v = .int .u8 b ∧ FoldAt s s' b ∧ HSet wr blk t s' ∧ Upd blk w wr)
  case atStart => exact ⟨97, s, by omega, by omega, rfl, FoldAt.start HS.out, H.out, Upd.refl _ _⟩
  case round =>
    obtain ⟨b, s', hbg, hb1, rfl, hf0, hh0, hu0⟩ := hrel
    have HF : Hid (FoldAt s s' b) := hf0
    have HH : Hid (HSet wr blk t s') := hh0
    have HU : Hid (Upd blk w wr) := hu0
    clear hf0 hh0 hu0
    cases gk with
    | zero =>
      obtain rfl : b = 123 := by omega
      go_wp2
      go_end0
      exact ⟨rfl, s', HF.out, HH.out, HU.out⟩
    | succ g =>
      have hb2 : b ≤ 122 := by omega
      have hup : ((b : Int) - 97 + 65) = ((b - 32 : Nat) : Int) := by omega
      have hlo := HF.out.at_lower hb1 hb2
      have hhi := HF.out.at_upper hb1 hb2
      cases hA : s.has b with
      | true =>
        rw [hA] at hlo
        have hit : Hid (FoldAt s ((s'.add b).add (b - 32)) (b + 1)) := HF.out.hit hb1 hb2 (by rw [hA]; rfl)
        clear hA hhi
        go_wp2_with fail
        refine (has_any blk t s' HF.out.1 b (by omega) _ HH.out).mono ?_
        rintro e w1 ⟨rfl, hw1⟩
        rw [hw1, hlo]
        clear hlo
        go_wp2_with fail
        refine (add_any blk t s' HF.out.1 b (by omega) _ HH.out).mono ?_
        rintro e w2 ⟨rfl, h2, u2⟩
        have H2 : Hid (HSet w2 blk t (s'.add b)) := h2
        have U2 : Hid (Upd blk wr w2) := u2
        clear h2 u2
        go_wp2_with fail
        refine (add_any blk t (s'.add b) (S4.ok_add HF.out.1 b (by omega)) (b - 32) (by omega) _ H2.out).mono ?_
        rintro e w3 ⟨rfl, h3, u3⟩
        have H3 : Hid (HSet w3 blk t ((s'.add b).add (b - 32))) := h3
        have U3 : Hid (Upd blk w2 w3) := u3
        clear h3 u3
        go_wp2
        go_roundg g
        case measure => omega
        case rel => exact ⟨b + 1, _, by omega, by omega, by go_num, hit.out, H3.out, (HU.out.trans U2.out).trans U3.out⟩
      | false =>
        rw [hA] at hlo
        cases hB : s.has (b - 32) with
        | true =>
          rw [hB] at hhi
          have hit : Hid (FoldAt s ((s'.add b).add (b - 32)) (b + 1)) := HF.out.hit hb1 hb2 (by rw [hB, Bool.or_true])
          clear hA hB
          go_wp2_with fail
          refine (has_any blk t s' HF.out.1 b (by omega) _ HH.out).mono ?_
          rintro e w1 ⟨rfl, hw1⟩
          rw [hw1, hlo]
          clear hlo hw1
          go_wp2_with fail
          refine (has_any blk t s' HF.out.1 (b - 32) (by omega) _ HH.out).mono ?_
          rintro e w1 ⟨rfl, hw1⟩
          rw [hw1, hhi]
          clear hhi hw1
          go_wp2_with fail
          refine (add_any blk t s' HF.out.1 b (by omega) _ HH.out).mono ?_
          rintro e w2 ⟨rfl, h2, u2⟩
          have H2 : Hid (HSet w2 blk t (s'.add b)) := h2
          have U2 : Hid (Upd blk wr w2) := u2
          clear h2 u2
          go_wp2_with fail
          refine (add_any blk t (s'.add b) (S4.ok_add HF.out.1 b (by omega)) (b - 32) (by omega) _ H2.out).mono ?_
          rintro e w3 ⟨rfl, h3, u3⟩
          have H3 : Hid (HSet w3 blk t ((s'.add b).add (b - 32))) := h3
          have U3 : Hid (Upd blk w2 w3) := u3
          clear h3 u3
          go_wp2
          go_roundg g
          case measure => omega
          case rel => exact ⟨b + 1, _, by omega, by omega, by go_num, hit.out, H3.out, (HU.out.trans U2.out).trans U3.out⟩
        | false =>
          rw [hB] at hhi
          have miss : Hid (FoldAt s s' (b + 1)) := HF.out.miss hb1 hb2 (by rw [hA, hB]; rfl)
          clear hA hB
          go_wp2_with fail
          refine (has_any blk t s' HF.out.1 b (by omega) _ HH.out).mono ?_
          rintro e w1 ⟨rfl, hw1⟩
          rw [hw1, hlo]
          clear hlo hw1
          go_wp2_with fail
          refine (has_any blk t s' HF.out.1 (b - 32) (by omega) _ HH.out).mono ?_
          rintro e w1 ⟨rfl, hw1⟩
          rw [hw1, hhi]
          clear hhi hw1
          go_wp2
          go_roundg g
          case measure => omega
          case rel => exact ⟨b + 1, _, by omega, by omega, by go_num, miss.out, HH.out, HU.out⟩

end Go.Proofs.Qxb6602360a
