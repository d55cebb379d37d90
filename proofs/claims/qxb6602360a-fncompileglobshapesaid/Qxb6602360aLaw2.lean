/-
  WALKS: the law's looks at the pattern.
-/
import Derived.Test.Qxb6602360aShape
namespace Go.Proofs.Qxb6602360a
open Go.RowKit Plain

set_option maxHeartbeats 400000 in
theorem bytes30_yes (s : ByteArray) (fc : Bool) (hs : s.size ≤ 1048576) (w : World) :
    Calls Try.prog 30 #[.string s, .bool fc] w fun e w' => e = .returned (.bool true) ∧ w' = w := by
  go_enter Try.func30, Try.ntmps30
  go_wp2
  go_ret
  exact ⟨rfl, rfl⟩
set_option maxHeartbeats 400000 in
theorem bytes30_no (s : ByteArray) (fc : Bool) (hm : s.size ≤ maxLen) (hs : 1048576 < s.size) (w : World) :
    Calls Try.prog 30 #[.string s, .bool fc] w fun e w' => e = .returned (.bool false) ∧ w' = w := by
  unfold maxLen at hm
  go_enter Try.func30, Try.ntmps30
  go_wp2
  go_ret
  exact ⟨rfl, rfl⟩

set_option maxHeartbeats 1000000 in
/-- hasBracketOrEscape, where there is one. -/
theorem bracket_yes (s : ByteArray) (hs : s.size ≤ 65536) (h : ∃ k, k < s.size ∧ (bt s k = 91 ∨ bt s k = 92)) (w : World) :
    Calls Try.prog 31 #[.string s] w fun e w' => e = .returned (.bool true) ∧ w' = w := by
  have H : Hid (∃ k, k < s.size ∧ (bt s k = 91 ∨ bt s k = 92)) := h
  clear h
  go_enter Try.func31, Try.ntmps31
  go_wp2
  go_loop [3] (fun i => ∃ k : Nat, k ≤ s.size ∧ i = .int .i64 k ∧ ∀ m, m < k → bt s m ≠ 91 ∧ bt s m ≠ 92) (fun i => s.size - (intOf i).toNat)
  case atStart => exact ⟨0, Nat.zero_le _, rfl, fun m hm => absurd hm (Nat.not_lt_zero _)⟩
  case round =>
    obtain ⟨k, hk, rfl, hd0⟩ := hrel
    have hd : Hid (∀ m, m < k → bt s m ≠ 91 ∧ bt s m ≠ 92) := hd0
    clear hd0
    by_cases hlt : k < s.size
    · obtain ⟨x, hx⟩ : ∃ x, (s[k]'hlt).toNat = x := ⟨_, rfl⟩
      have HB : Hid (bt s k = x) := by have := bt_eq s k hlt; rw [hx] at this; exact this
      by_cases h1 : x = 91
      · subst h1
        go_wp2
        go_ret
        exact ⟨rfl, rfl⟩
      · have e1 : ((x : Int) == 91) = false := by rw [beq_eq_false_iff_ne]; omega
        by_cases h2 : x = 92
        · subst h2
          go_wp2
          go_ret
          exact ⟨rfl, rfl⟩
        · have e2 : ((x : Int) == 92) = false := by rw [beq_eq_false_iff_ne]; omega
          go_wp2
          go_round
          case rel =>
            refine ⟨k + 1, by omega, by go_num, fun m hm => ?_⟩
            by_cases e : m = k
            · subst e; rw [HB.out]; exact ⟨h1, h2⟩
            · exact hd.out m (by omega)
          case measure => simp [intOf]; omega
    · exfalso
      obtain ⟨m, hm, h⟩ := H.out
      have := hd.out m (by omega)
      omega

/-- The answer of hasGlobSpecial. -/
def SpB (s : ByteArray) (b : Bool) : Prop := b = false ↔ NoSp s s.size
theorem spB_ex (s : ByteArray) : ∃ b, SpB s b := by
  rcases Classical.em (NoSp s s.size) with h | h
  · exact ⟨false, fun _ => h, fun _ => rfl⟩
  · exact ⟨true, fun e => (by cases e), fun e => absurd e h⟩

set_option maxHeartbeats 1000000 in
theorem special_any (s : ByteArray) (hs : s.size ≤ 65536) (b : Bool) (h : SpB s b) (w : World) :
    Calls Try.prog 33 #[.string s] w fun e w' => e = .returned (.bool b) ∧ w' = w := by
  have H : Hid (SpB s b) := h
  clear h
  go_enter Try.func33, Try.ntmps33
  go_wp2
  go_loop [3] (fun i => ∃ k : Nat, k ≤ s.size ∧ i = .int .i64 k ∧ NoSp s k) (fun i => s.size - (intOf i).toNat)
  case atStart => exact ⟨0, Nat.zero_le _, rfl, fun m hm => absurd hm (Nat.not_lt_zero _)⟩
  case round =>
    obtain ⟨k, hk, rfl, hd0⟩ := hrel
    have hd : Hid (NoSp s k) := hd0
    clear hd0
    by_cases hlt : k < s.size
    · obtain ⟨x, hx⟩ : ∃ x, (s[k]'hlt).toNat = x := ⟨_, rfl⟩
      have HB : Hid (bt s k = x) := by have := bt_eq s k hlt; rw [hx] at this; exact this
      have hyes : Hid ((x = 42 ∨ x = 63 ∨ x = 91 ∨ x = 92) → true = b) := by
        intro hc
        cases hb : b with
        | true => rfl
        | false =>
          have h0 := H.out
          rw [hb] at h0
          have := h0.1 rfl k hlt
          rw [HB.out] at this
          omega
      by_cases h1 : x = 42
      · have := hyes.out (by omega)
        subst h1 this
        clear hyes
        go_wp2
        go_ret
        exact ⟨rfl, rfl⟩
      · have e1 : ((x : Int) == 42) = false := by rw [beq_eq_false_iff_ne]; omega
        by_cases h2 : x = 63
        · have := hyes.out (by omega)
          subst h2 this
          clear hyes
          go_wp2
          go_ret
          exact ⟨rfl, rfl⟩
        · have e2 : ((x : Int) == 63) = false := by rw [beq_eq_false_iff_ne]; omega
          by_cases h3 : x = 91
          · have := hyes.out (by omega)
            subst h3 this
            clear hyes
            go_wp2
            go_ret
            exact ⟨rfl, rfl⟩
          · have e3 : ((x : Int) == 91) = false := by rw [beq_eq_false_iff_ne]; omega
            by_cases h4 : x = 92
            · have := hyes.out (by omega)
              subst h4 this
              clear hyes
              go_wp2
              go_ret
              exact ⟨rfl, rfl⟩
            · have e4 : ((x : Int) == 92) = false := by rw [beq_eq_false_iff_ne]; omega
              clear hyes
              go_wp2
              go_round
              case rel =>
                refine ⟨k + 1, by omega, by go_num, fun m hm => ?_⟩
                by_cases e : m = k
                · subst e; rw [HB.out]; exact ⟨h1, h2, h3, h4⟩
                · exact hd.out m (by omega)
              case measure => simp [intOf]; omega
    · have hb : Hid (false = b) := by
        have h0 := H.out
        exact (h0.2 (fun m hm => hd.out m (by omega))).symm
      go_wp2
      go_ret
      exact ⟨ret_bool hb.out, rfl⟩

end Go.Proofs.Qxb6602360a
