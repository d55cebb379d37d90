/-
  WALKS of the small functions: isExpMark, isDigitByte, Digits, hasExpMark, the two bounds on lengths.
-/
import Derived.Test.Qxb6601839aProg
import Derived.Test.Qxb6601839aPlain
import Derived.WalkKit
import Derived.WalkSpells
import Derived.WalkLawsBesides
namespace Go.Proofs.Qxb6601839a
open Go.RowKit Plain

theorem ret_bool {a b : Bool} (h : a = b) : Ending.returned (.bool a) = .returned (.bool b) := by rw [h]

def eB (n : Nat) : Bool := n == 101 || n == 69
def dB (n : Nat) : Bool := decide (48 ≤ n) && decide (n ≤ 57)

theorem eB_true {n : Nat} (h : E n) : eB n = true := by unfold E at h; unfold eB; rcases h with rfl | rfl <;> rfl
theorem eB_false {n : Nat} (h : ¬ E n) : eB n = false := by
  unfold E at h; unfold eB; rw [Bool.or_eq_false_iff]; constructor <;> (rw [beq_eq_false_iff_ne]; omega)

set_option maxHeartbeats 400000 in
theorem isExpMark_yes (c : Nat) (h : E c) (w : World) :
    Calls Try.prog 22 #[.int .u8 c] w fun e w' => e = .returned (.bool true) ∧ w' = w := by
  rcases h with rfl | rfl
  · go_enter Try.func22, Try.ntmps22
    go_wp2
    go_ret
    exact ⟨rfl, rfl⟩
  · go_enter Try.func22, Try.ntmps22
    go_wp2
    go_ret
    exact ⟨rfl, rfl⟩

set_option maxHeartbeats 400000 in
theorem isExpMark_no (c : Nat) (h : ¬ E c) (w : World) :
    Calls Try.prog 22 #[.int .u8 c] w fun e w' => e = .returned (.bool false) ∧ w' = w := by
  unfold E at h
  have h1 : ((c : Int) == 101) = false := by rw [beq_eq_false_iff_ne]; omega
  have h2 : ((c : Int) == 69) = false := by rw [beq_eq_false_iff_ne]; omega
  clear h
  go_enter Try.func22, Try.ntmps22
  go_wp2
  go_ret
  exact ⟨rfl, rfl⟩

set_option maxHeartbeats 1000000 in
theorem isDigitByte_yes (c : Nat) (h : Dg c) (w : World) :
    Calls Try.prog 20 #[.int .u8 c] w fun e w' => e = .returned (.bool true) ∧ w' = w := by
  unfold Dg at h
  obtain ⟨h1, h2⟩ := h
  go_enter Try.func20, Try.ntmps20
  go_wp2
  all_goals first | (go_ret; exact ⟨rfl, rfl⟩) | (exfalso; simp at *; omega)

set_option maxHeartbeats 1000000 in
theorem isDigitByte_no (c : Nat) (h : ¬ Dg c) (w : World) :
    Calls Try.prog 20 #[.int .u8 c] w fun e w' => e = .returned (.bool false) ∧ w' = w := by
  unfold Dg at h
  have hn : ∀ n : Int, 48 ≤ n → n ≤ 57 → ((c : Int) == n) = false := fun n a b => by rw [beq_eq_false_iff_ne]; omega
  have h0 := hn 48 (by omega) (by omega)
  have h1 := hn 49 (by omega) (by omega)
  have h2 := hn 50 (by omega) (by omega)
  have h3 := hn 51 (by omega) (by omega)
  have h4 := hn 52 (by omega) (by omega)
  have h5 := hn 53 (by omega) (by omega)
  have h6 := hn 54 (by omega) (by omega)
  have h7 := hn 55 (by omega) (by omega)
  have h8 := hn 56 (by omega) (by omega)
  have h9 := hn 57 (by omega) (by omega)
  clear hn h
  go_enter Try.func20, Try.ntmps20
  go_wp2
  go_ret
  exact ⟨rfl, rfl⟩

theorem size_len (s : ByteArray) : s.size = s.data.toList.length := by simp only [Array.length_toList]; rfl
theorem isEmpty_of {s : ByteArray} (h : s.size = 0) : s.toList.isEmpty = true := by
  rw [ByteArray.toList_eq, List.isEmpty_iff]; exact List.length_eq_zero_iff.1 (by rw [← size_len]; exact h)
theorem isEmpty_not {s : ByteArray} (h : s.size ≠ 0) : s.toList.isEmpty = false := by
  rw [ByteArray.toList_eq]
  cases hc : s.data.toList with
  | nil => exact absurd (by rw [size_len, hc]; rfl) h
  | cons _ _ => rfl

set_option maxHeartbeats 1000000 in
/-- Digits: one or more bytes, all of them digits. -/
theorem digits_any (s : ByteArray) (hs : s.size ≤ 1048576) (b : Bool) (hb : AllD s b) (w : World) :
    Calls Try.prog 11 #[.string s] w fun e w' => e = .returned (.bool b) ∧ w' = w := by
  have H : Hid (AllD s b) := hb
  clear hb
  by_cases h0 : s.size = 0
  · have he : s.toList.isEmpty = true := isEmpty_of h0
    have hb : false = b := by
      cases hb : b with
      | false => rfl
      | true => have := (H.out.1 hb).1; omega
    have HB : Hid (false = b) := hb
    clear hb
    go_enter Try.func11, Try.ntmps11
    go_wp2
    go_ret
    exact ⟨ret_bool HB.out, rfl⟩
  · have he : s.toList.isEmpty = false := isEmpty_not h0
    go_enter Try.func11, Try.ntmps11
    go_wp2
    go_loop [3] (fun i => ∃ k : Nat, k ≤ s.size ∧ i = .int .i64 k ∧ ∀ m, m < k → Dg (bt s m)) (fun i => s.size - (intOf i).toNat)
    case atStart => exact ⟨0, Nat.zero_le _, rfl, fun m hm => absurd hm (Nat.not_lt_zero _)⟩
    case round =>
      obtain ⟨k, hk, rfl, hd0⟩ := hrel
      have hd : Hid (∀ m, m < k → Dg (bt s m)) := hd0
      clear hd0
      by_cases hlt : k < s.size
      · have HB : Hid (bt s k = (s[k]'hlt).toNat) := bt_eq s k hlt
        have hno : Hid (¬ (48 ≤ ((s[k]'hlt).toNat : Int) ∧ ((s[k]'hlt).toNat : Int) ≤ 57) → false = b) := by
          intro hc
          cases hb : b with
          | false => rfl
          | true =>
            have := (H.out.1 hb).2 k (by omega) hlt
            rw [HB.out] at this; unfold Dg at this
            exact absurd this (by omega)
        go_wp2
        · go_ret
          exact ⟨ret_bool (hno.out (by omega)), rfl⟩
        · go_round
          case rel =>
            refine ⟨k + 1, by omega, by go_num, fun m hm => ?_⟩
            by_cases e : m = k
            · subst e; rw [HB.out]; unfold Dg; omega
            · exact hd.out m (by omega)
          case measure => simp [intOf]; omega
        · go_ret
          exact ⟨ret_bool (hno.out (by omega)), rfl⟩
      · have hb : Hid (true = b) := by
          have : b = true := H.out.2 ⟨by omega, fun m _ hm => hd.out m (by omega)⟩
          exact this.symm
        go_wp2
        go_ret
        exact ⟨ret_bool hb.out, rfl⟩

set_option maxHeartbeats 1000000 in
/-- hasExpMark: some byte is a mark. -/
theorem hasExp_any (s : ByteArray) (hs : s.size ≤ 1048576) (b : Bool) (hb : HasE s b) (w : World) :
    Calls Try.prog 18 #[.string s] w fun e w' => e = .returned (.bool b) ∧ w' = w := by
  have H : Hid (HasE s b) := hb
  clear hb
  go_enter Try.func18, Try.ntmps18
  go_wp2
  go_loop [3] (fun i => ∃ k : Nat, k ≤ s.size ∧ i = .int .i64 k ∧ ∀ m, m < k → ¬ E (bt s m)) (fun i => s.size - (intOf i).toNat)
  case atStart => exact ⟨0, Nat.zero_le _, rfl, fun m hm => absurd hm (Nat.not_lt_zero _)⟩
  case round =>
    obtain ⟨k, hk, rfl, hd0⟩ := hrel
    have hd : Hid (∀ m, m < k → ¬ E (bt s m)) := hd0
    clear hd0
    by_cases hlt : k < s.size
    · have HB : Hid (bt s k = (s[k]'hlt).toNat) := bt_eq s k hlt
      by_cases he : E (s[k]'hlt).toNat
      · have hb : Hid (true = b) := by
          have : b = true := H.out.2 ⟨k, hlt, by rw [HB.out]; exact he⟩
          exact this.symm
        have HE : Hid (E (s[k]'hlt).toNat) := he
        clear he
        go_wp2_with (go_at_call 22; refine (isExpMark_yes _ HE.out _).mono ?_; rintro e w' ⟨rfl, rfl⟩)
        go_ret
        exact ⟨ret_bool hb.out, rfl⟩
      · have HE : Hid (¬ E (s[k]'hlt).toNat) := he
        clear he
        go_wp2_with (go_at_call 22; refine (isExpMark_no _ HE.out _).mono ?_; rintro e w' ⟨rfl, rfl⟩)
        go_round
        case rel =>
          refine ⟨k + 1, by omega, by go_num, fun m hm => ?_⟩
          by_cases e : m = k
          · subst e; rw [HB.out]; exact HE.out
          · exact hd.out m (by omega)
        case measure => simp [intOf]; omega
    · have hb : Hid (false = b) := by
        cases hb : b with
        | false => rfl
        | true =>
          obtain ⟨m, hm, he⟩ := H.out.1 hb
          exact absurd he (hd.out m (by omega))
      go_wp2
      go_ret
      exact ⟨ret_bool hb.out, rfl⟩

end Go.Proofs.Qxb6601839a
