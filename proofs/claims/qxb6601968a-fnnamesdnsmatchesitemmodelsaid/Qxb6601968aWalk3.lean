/-
  WALKS: namesDNS.
-/
import Derived.Test.Qxb6601968aWalk2
namespace Go.Proofs.Qxb6601968a
open Go.RowKit Plain

/-- What namesDNS knows at a round's head: the item in hand begins at a, k is looked at next. -/
structure NInv (t : ByteArray) (a k : Nat) : Prop where
  le : a ≤ k ∧ k ≤ t.size + 1
  start : a ≤ t.size → a = 0 ∨ bt t (a - 1) = 44
  noComma : ∀ m, a ≤ m → m < k → m < t.size → bt t m ≠ 44
  no : ∀ p, p < a → ¬ Hit t p

theorem NInv.next {t : ByteArray} {a k : Nat} (h : NInv t a k) (hk : k < t.size) (hc : bt t k ≠ 44) : NInv t a (k + 1) := by
  refine ⟨⟨by have := h.le; omega, by omega⟩, h.start, fun m h1 h2 h3 => ?_, h.no⟩
  by_cases e : m = k
  · subst e; exact hc
  · exact h.noComma m h1 (by omega) h3

/-- An item ends at k. -/
theorem NInv.item {t : ByteArray} {a k : Nat} (h : NInv t a k) (hk : k ≤ t.size) (hc : k = t.size ∨ bt t k = 44) (hn : ¬ Hit t a) : NInv t (k + 1) (k + 1) := by
  refine ⟨⟨by omega, by omega⟩, fun h1 => ?_, fun m h1 h2 => by omega, fun p hp => ?_⟩
  · rcases hc with e | e
    · omega
    · exact Or.inr e
  · rcases Nat.lt_trichotomy p a with l | l | l
    · exact h.no p l
    · rw [l]; exact hn
    · refine no_inner (a := a) (i := k) (fun m h1 h2 => ?_) l (by omega)
      exact h.noComma m h1 h2 (by omega)

theorem NInv.end {t : ByteArray} {a k : Nat} (h : NInv t a k) (hk : t.size < k) : a = k → ∀ p, ¬ Hit t p := by
  intro e p hp
  by_cases l : p < a
  · exact h.no p l hp
  · have := hp.2.1; omega

/-- The name of the item from a to k, up to its colon. -/
structure Nm (t nm : ByteArray) (a k j : Nat) : Prop where
  item : Plain.Item t a k j
  size : nm.size = j - a
  byte : ∀ x, x < j - a → bt nm x = bt t (a + x)

theorem nm_whole {t : ByteArray} {a k : Nat} (h : NInv t a k) (hk : k ≤ t.size) (hc : k = t.size ∨ bt t k = 44) (hn : ∀ j, j < (t.extract a k).size → bt (t.extract a k) j ≠ 58) : Nm t (t.extract a k) a k k := by
  have hs : (t.extract a k).size = k - a := by rw [size_extract]; omega
  refine ⟨⟨⟨h.le.1, Nat.le_refl _, hk⟩, h.start (by have := h.le; omega), fun m h1 h2 => h.noComma m h1 h2 (by omega), hc, fun m h1 h2 => ?_, Or.inl rfl⟩, hs, fun x hx => bt_extract t a k x hk (by omega)⟩
  have := hn (m - a) (by rw [hs]; omega)
  rw [bt_extract t a k (m - a) hk (by omega), show a + (m - a) = m by omega] at this
  exact this

theorem nm_cut {t : ByteArray} {a k c : Nat} (h : NInv t a k) (hk : k ≤ t.size) (hc : k = t.size ∨ bt t k = 44) (hl : c < (t.extract a k).size) (he : bt (t.extract a k) c = 58)
    (hn : ∀ j, j < c → bt (t.extract a k) j ≠ 58) : Nm t ((t.extract a k).extract 0 c) a k (a + c) := by
  have hs : (t.extract a k).size = k - a := by rw [size_extract]; omega
  rw [hs] at hl
  rw [bt_extract t a k c hk (by omega)] at he
  refine ⟨⟨⟨by omega, by omega, hk⟩, h.start (by have := h.le; omega), fun m h1 h2 => h.noComma m h1 h2 (by omega), hc, fun m h1 h2 => ?_, Or.inr he⟩, by rw [size_extract, hs]; omega, fun x hx => ?_⟩
  · have := hn (m - a) (by omega)
    rw [bt_extract t a k (m - a) hk (by omega), show a + (m - a) = m by omega] at this
    exact this
  · rw [bt_extract _ 0 c x (by rw [hs]; omega) (by omega), bt_extract t a k _ hk (by omega)]
    congr 1; omega

theorem nm_star {t nm : ByteArray} {a k j : Nat} (h : Nm t nm a k j) (h0 : 0 < nm.size) (hs : bt nm (nm.size - 1) = 42) : ((nm.extract 0 (nm.size - 1)).toList == [100, 110, 115]) = true ↔ Hit t a := by
  have hz := h.size
  rw [h.byte (nm.size - 1) (by omega), show a + (nm.size - 1) = j - 1 by omega] at hs
  rw [← item_star h.item (by omega) hs, ByteArray.toList_eq, dns_eq, decide_eq_true_eq]
  have hu : (nm.extract 0 (nm.size - 1)).size = j - 1 - a := by rw [size_extract]; omega
  unfold IsDns
  rw [hu]
  have hb : ∀ x, x < j - 1 - a → bt (nm.extract 0 (nm.size - 1)) x = bt t (a + x) := fun x hx => by
    rw [bt_extract nm 0 _ x (by omega) (by omega), h.byte _ (by omega)]; congr 1; omega
  constructor
  · rintro ⟨e, h1, h2, h3⟩
    rw [hb 0 (by omega)] at h1; rw [hb 1 (by omega)] at h2; rw [hb 2 (by omega)] at h3
    exact ⟨by omega, h1, h2, h3⟩
  · rintro ⟨e, h1, h2, h3⟩
    rw [hb 0 (by omega), hb 1 (by omega), hb 2 (by omega)]
    exact ⟨by omega, h1, h2, h3⟩

theorem nm_plain {t nm : ByteArray} {a k j : Nat} (h : Nm t nm a k j) (hs : ¬ (0 < nm.size ∧ bt nm (nm.size - 1) = 42)) : (nm.toList == [100, 110, 115]) = true ↔ Hit t a := by
  have hz := h.size
  have hs' : ¬ (a < j ∧ bt t (j - 1) = 42) := by
    rintro ⟨e, c⟩
    refine hs ⟨by omega, ?_⟩
    rw [h.byte (nm.size - 1) (by omega), show a + (nm.size - 1) = j - 1 by omega]; exact c
  rw [← item_plain h.item hs', ByteArray.toList_eq, dns_eq, decide_eq_true_eq]
  unfold IsDns
  rw [hz]
  have hj := h.item.le
  constructor
  · rintro ⟨e, h1, h2, h3⟩
    rw [h.byte 0 (by omega)] at h1; rw [h.byte 1 (by omega)] at h2; rw [h.byte 2 (by omega)] at h3
    exact ⟨by omega, h1, h2, h3⟩
  · rintro ⟨e, h1, h2, h3⟩
    rw [h.byte 0 (by omega), h.byte 1 (by omega), h.byte 2 (by omega)]
    exact ⟨by omega, h1, h2, h3⟩

end Go.Proofs.Qxb6601968a
