/-
  WALK: FnStoredSizeMatchesCompactModel.
-/
import Derived.Test.Qxb6602476aSt6
namespace Go.Proofs.Qxb6602476a
open Go.RowKit Plain

theorem below_more {B : Nat} {a b c : World} (h : Below B a b) (k : Below b.heap.size b c) (hB : B ≤ b.heap.size) : Below B a c := h.trans (k.mono hB)

set_option maxRecDepth 1000000 in
set_option maxHeartbeats 4000000 in
theorem law9_any (a : Option Addr) (n cap : Nat) (hn : n ≤ maxLen) (v : Nat → Nat) (w : World) (hb : Bts w a n v) (hnil : a = none → n = 0 ∧ cap = 0) :
    Calls Try.prog 9 #[.slice a n cap] w fun e w' => e = .returned (.bool true) ∧ Below w.heap.size w w' := by
  have hn2 : n ≤ 9223372036854775807 := by unfold maxLen at hn; omega
  have HB : Hid (Bts w a n v) := hb
  have HN : Hid (a = none → n = 0 ∧ cap = 0) := hnil
  have hb24 := bytes24 a n cap hn2
  have H24 : Hid (∀ w, Calls Try.prog 24 #[.slice a n cap] w fun e w' => e = .returned (.bool (decide (n ≤ 1048576))) ∧ w' = w) := hb24
  clear hb hnil hb24 hn
  by_cases hle : n ≤ 1048576
  · rw [decide_eq_true hle] at H24
    have h1 : ¬ (1048576 : Int) < n := by omega
    go_enter Try.func9, Try.ntmps9
    go_wp2_with (go_at_call 24; refine (H24.out _).mono ?_; rintro e w' ⟨rfl, hw'⟩; subst hw'; try simp only [])
    refine (zzScanJSON_any a n cap (by omega) v _ HB.out).mono ?_
    rintro e w1 ⟨⟨sz, ok, ex, rfl, hans⟩, hbel⟩
    have HA : Hid (Answer v n sz ok ex) := hans
    have HL : Hid (Below _ _ w1) := hbel
    clear hans hbel
    simp only []
    cases ok with
    | false =>
      go_wp2
      go_ret
      exact ⟨rfl, HL.out⟩
    | true =>
      cases ex with
      | false =>
        go_wp2
        go_ret
        exact ⟨rfl, HL.out⟩
      | true =>
        obtain ⟨s, hreach, hsz⟩ := HA.out rfl
        obtain rfl := hsz rfl
        have HT : Hid (Tok v n 0 sz) := hreach.all
        clear hreach HA hsz
        go_wp2_with fail
        refine (zzClone_any a n cap (by omega) v _ (HB.out.below HL.out) HN.out).mono ?_
        rintro e w2 hback
        rcases hback with ⟨rfl, rfl, hw2⟩ | ⟨g, rfl, hg1, hg2, hrow, hbel2⟩
        · subst hw2
          obtain ⟨rfl, rfl⟩ := HN.out rfl
          have hs0 : sz = 0 := tok_end HT.out
          subst hs0
          simp only []
          go_wp2_with fail
          refine (zss_nil _).mono ?_
          rintro e w3 ⟨rfl, k, hw3⟩
          subst hw3
          simp only []
          go_wp2
          go_ret
          exact ⟨rfl, below_drewN HL.out k⟩
        · have HR : Hid (Row w2 g n v) := hrow
          have HG : Hid (g < w2.heap.size) := hg2
          have HL2 : Hid (Below _ _ w2) := below_more HL.out hbel2 HL.out.size
          clear hrow hg1 hg2 hbel2
          simp only []
          go_wp2_with fail
          refine (zss_any g n n (by omega) (Nat.le_refl _) v sz HT.out _ HG.out HR.out).mono ?_
          rintro e w3 ⟨rfl, k, hw3⟩
          subst hw3
          simp only []
          go_wp2
          go_ret
          exact ⟨rfl, below_drewN HL2.out k⟩
  · rw [decide_eq_false hle] at H24
    go_enter Try.func9, Try.ntmps9
    go_wp2_with (go_at_call 24; refine (H24.out _).mono ?_; rintro e w' ⟨rfl, hw'⟩; subst hw'; try simp only [])
    go_ret
    exact ⟨rfl, Below.refl _ _⟩

end Go.Proofs.Qxb6602476a
