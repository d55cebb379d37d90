/-
  WALKS: zzIsSpace, zzIsDigit, isDigit, zzStringEnd, stringEnd, zzHasAt.
-/
import Derived.Test.Qxb6602476aProg
import Derived.Test.Qxb6602476aPlain
import Derived.WalkKit
import Derived.WalkSpells
import Derived.WalkLawsBesides
import Derived.Below
import Derived.Deep.LoopGhost
import Derived.Deep.QuietTactic
import Derived.BigQuiet
namespace Go.Proofs.Qxb6602476a
open Go.RowKit Plain

/-- The bytes of a slice. -/
structure Bts (w : World) (a : Option Addr) (n : Nat) (v : Nat → Nat) : Prop where
  small : ∀ i, v i < 256
  cells : n = 0 ∨ ∃ b off m, a = some ⟨b, off, m⟩ ∧ b < w.heap.size ∧ ∀ i, i < n → w.cell? ((⟨b, off, m⟩ : Addr).add i) = some (.int .u8 (v i))

set_option maxHeartbeats 1000000 in
theorem zzIsDigit_yes (c : Nat) (h : Dg c) (w : World) : Calls Try.prog 12 #[.int .u8 c] w fun e w' => e = .returned (.bool true) ∧ w' = w := by
  have h1 : (48 : Int) ≤ c := by have := h.1; omega
  have h2 : (c : Int) ≤ 57 := by have := h.2; omega
  clear h
  go_enter Try.func12, Try.ntmps12
  go_wp2
  all_goals first | (go_ret; exact ⟨rfl, rfl⟩) | (exfalso; simp at *; omega)
set_option maxHeartbeats 1000000 in
theorem zzIsDigit_no (c : Nat) (h : ¬ Dg c) (w : World) : Calls Try.prog 12 #[.int .u8 c] w fun e w' => e = .returned (.bool false) ∧ w' = w := by
  unfold Dg at h
  by_cases h1 : c < 48
  · clear h
    go_enter Try.func12, Try.ntmps12
    go_wp2
    all_goals first | (go_ret; exact ⟨rfl, rfl⟩) | (exfalso; simp at *; omega)
  · have h2 : ¬ (c : Int) ≤ 57 := by omega
    have h3 : (48 : Int) ≤ c := by omega
    clear h h1
    go_enter Try.func12, Try.ntmps12
    go_wp2
    all_goals first | (go_ret; exact ⟨rfl, rfl⟩) | (exfalso; simp at *; omega)

set_option maxHeartbeats 1000000 in
theorem isDigit_yes (c : Nat) (h : Dg c) (w : World) : Calls Try.prog 36 #[.int .u8 c] w fun e w' => e = .returned (.bool true) ∧ w' = w := by
  have h1 : (48 : Int) ≤ c := by have := h.1; omega
  have h2 : (c : Int) ≤ 57 := by have := h.2; omega
  clear h
  go_enter Try.func36, Try.ntmps36
  go_wp2
  all_goals first | (go_ret; exact ⟨rfl, rfl⟩) | (exfalso; simp at *; omega)
set_option maxHeartbeats 1000000 in
theorem isDigit_no (c : Nat) (h : ¬ Dg c) (w : World) : Calls Try.prog 36 #[.int .u8 c] w fun e w' => e = .returned (.bool false) ∧ w' = w := by
  unfold Dg at h
  by_cases h1 : c < 48
  · clear h
    go_enter Try.func36, Try.ntmps36
    go_wp2
    all_goals first | (go_ret; exact ⟨rfl, rfl⟩) | (exfalso; simp at *; omega)
  · have h2 : ¬ (c : Int) ≤ 57 := by omega
    have h3 : (48 : Int) ≤ c := by omega
    clear h h1
    go_enter Try.func36, Try.ntmps36
    go_wp2
    all_goals first | (go_ret; exact ⟨rfl, rfl⟩) | (exfalso; simp at *; omega)

set_option maxHeartbeats 1000000 in
theorem zzIsSpace_yes (c : Nat) (h : Sp c) (w : World) : Calls Try.prog 30 #[.int .u8 c] w fun e w' => e = .returned (.bool true) ∧ w' = w := by
  rcases h with rfl | rfl | rfl | rfl
  all_goals
    go_enter Try.func30, Try.ntmps30
    go_wp2
    go_ret
    exact ⟨rfl, rfl⟩
set_option maxHeartbeats 1000000 in
theorem zzIsSpace_no (c : Nat) (h : ¬ Sp c) (w : World) : Calls Try.prog 30 #[.int .u8 c] w fun e w' => e = .returned (.bool false) ∧ w' = w := by
  unfold Sp at h
  have h1 : ((c : Int) == 32) = false := by rw [beq_eq_false_iff_ne]; omega
  have h2 : ((c : Int) == 9) = false := by rw [beq_eq_false_iff_ne]; omega
  have h3 : ((c : Int) == 10) = false := by rw [beq_eq_false_iff_ne]; omega
  have h4 : ((c : Int) == 13) = false := by rw [beq_eq_false_iff_ne]; omega
  clear h
  go_enter Try.func30, Try.ntmps30
  go_wp2
  go_ret
  exact ⟨rfl, rfl⟩

theorem Bts.at' {w : World} {a : Option Addr} {n : Nat} {v : Nat → Nat} (h : Bts w a n v) (hn : 0 < n) : ∃ b off m, a = some ⟨b, off, m⟩ ∧ ∀ i, i < n → w.cell? ((⟨b, off, m⟩ : Addr).add i) = some (.int .u8 (v i)) := by
  rcases h.cells with h1 | ⟨b, off, m, rfl, _, hc⟩
  · omega
  · exact ⟨b, off, m, rfl, hc⟩

set_option maxRecDepth 100000 in
set_option maxHeartbeats 1000000 in
theorem zzStringEnd_any (a : Option Addr) (n cap : Nat) (hn : n ≤ 2097152) (v : Nat → Nat) (i : Nat) (hi : i < n) (w : World) (hb : Bts w a n v) :
    Calls Try.prog 31 #[.slice a n cap, .int .i64 i] w fun e w' => (∃ (j : Nat) (ok : Bool), e = .returned (.tuple #[.int .i64 j, .bool ok]) ∧ (ok = true → StrEnd v n (i + 1) j)) ∧ w' = w := by
  obtain ⟨b, off, m, rfl, hc⟩ := hb.at' (by omega)
  have hsm := hb.small
  go_enter Try.func31, Try.ntmps31
  go_wp2
  go_loopg [6] (n - i) (fun g vj wr => ∃ j : Nat, vj = .int .i64 j ∧ j + g = n + 1 ∧ i < j ∧ (∀ e, StrEnd v n j e → StrEnd v n (i + 1) e) ∧ wr = w)
  case atStart => exact ⟨i + 1, by go_num, by omega, by omega, fun _ h => h, rfl⟩
  case round =>
    obtain ⟨j, rfl, hg, hij, hse, rfl⟩ := hrel
    have HS : Hid (∀ e, StrEnd v n j e → StrEnd v n (i + 1) e) := hse
    clear hse hb
    by_cases hj : j < n
    · have hcj := hc j hj
      have hj8 := hsm j
      clear hc hsm
      by_cases h92 : v j = 92
      · have HS2 : Hid (∀ e, StrEnd v n (j + 2) e → StrEnd v n (i + 1) e) := fun e h => HS.out e (.esc hj h92 h)
        rw [h92] at hcj
        clear h92 HS hj8
        go_wp2
        go_roundg (gk - 2)
        case measure => omega
        case rel => exact ⟨j + 2, by go_num, by omega, by omega, HS2.out, rfl⟩
      · by_cases h34 : v j = 34
        · have HS2 : Hid (StrEnd v n (i + 1) (j + 1)) := HS.out _ (.quote hj h34)
          rw [h34] at hcj
          clear h92 h34 HS hj8
          go_wp2
          go_ret2
          exact ⟨⟨j + 1, true, rfl, fun _ => HS2.out⟩, rfl⟩
        · have HS2 : Hid (∀ e, StrEnd v n (j + 1) e → StrEnd v n (i + 1) e) := fun e h => HS.out e (.other hj h34 h92 h)
          obtain ⟨x, hx⟩ : ∃ x, v j = x := ⟨_, rfl⟩
          rw [hx] at hcj hj8 h92 h34
          have e1 : ((x : Int) == 92) = false := by rw [beq_eq_false_iff_ne]; omega
          have e2 : ((x : Int) == 34) = false := by rw [beq_eq_false_iff_ne]; omega
          clear h92 h34 HS hx
          go_wp2
          go_roundg (gk - 1)
          case measure => omega
          case rel => exact ⟨j + 1, by go_num, by omega, by omega, HS2.out, rfl⟩
    · clear hc hsm
      go_wp2
      go_ret2
      exact ⟨⟨j, false, rfl, fun h => (by cases h)⟩, rfl⟩

set_option maxRecDepth 100000 in
set_option maxHeartbeats 1000000 in
theorem stringEnd_any (a : Option Addr) (n cap : Nat) (hn : n ≤ 2097152) (v : Nat → Nat) (i z : Nat) (hi : i < n) (hz : StrEnd v n (i + 1) z) (w : World) (hb : Bts w a n v) :
    Calls Try.prog 35 #[.slice a n cap, .int .i64 i] w fun e w' => e = .returned (.int .i64 z) ∧ w' = w := by
  obtain ⟨b, off, m, rfl, hc⟩ := hb.at' (by omega)
  have hsm := hb.small
  have HZ : Hid (StrEnd v n (i + 1) z) := hz
  clear hz
  go_enter Try.func35, Try.ntmps35
  go_wp2
  go_loopg [5] (n - i) (fun g vj wr => ∃ j : Nat, vj = .int .i64 j ∧ j + g = n + 1 ∧ i < j ∧ StrEnd v n j z ∧ wr = w)
  case atStart => exact ⟨i + 1, by go_num, by omega, by omega, HZ.out, rfl⟩
  case round =>
    obtain ⟨j, rfl, hg, hij, hse, rfl⟩ := hrel
    have hj : j < n := hse.lt
    have hcj := hc j hj
    have hj8 := hsm j
    clear hc hsm hb HZ
    cases hse with
    | esc _ h92 h =>
      have HS2 : Hid (StrEnd v n (j + 2) z) := h
      rw [h92] at hcj
      clear h h92 hj8
      go_wp2
      go_roundg (gk - 2)
      case measure => omega
      case rel => exact ⟨j + 2, by go_num, by omega, by omega, HS2.out, rfl⟩
    | quote _ h34 =>
      rw [h34] at hcj
      clear h34 hj8
      go_wp2
      go_ret
      exact ⟨rfl, rfl⟩
    | other _ h34 h92 h =>
      have HS2 : Hid (StrEnd v n (j + 1) z) := h
      obtain ⟨x, hx⟩ : ∃ x, v j = x := ⟨_, rfl⟩
      rw [hx] at hcj hj8 h92 h34
      have e1 : ((x : Int) == 92) = false := by rw [beq_eq_false_iff_ne]; omega
      have e2 : ((x : Int) == 34) = false := by rw [beq_eq_false_iff_ne]; omega
      clear h92 h34 hx h
      go_wp2
      go_roundg (gk - 1)
      case measure => omega
      case rel => exact ⟨j + 1, by go_num, by omega, by omega, HS2.out, rfl⟩

set_option maxRecDepth 100000 in
set_option maxHeartbeats 1000000 in
theorem zzHasAt_any (a : Option Addr) (n cap : Nat) (hn : n ≤ 2097152) (v : Nat → Nat) (i : Nat) (hi : i < n) (s : ByteArray) (hs : s.size ≤ 100) (w : World) (hb : Bts w a n v) :
    Calls Try.prog 32 #[.slice a n cap, .int .i64 i, .string s] w fun e w' => (∃ ok : Bool, e = .returned (.bool ok) ∧ (ok = true → i + s.size ≤ n ∧ ∀ k (h : k < s.size), v (i + k) = (s[k]'h).toNat)) ∧ ∃ m, w' = w.drewN m := by
  obtain ⟨b, off, m, rfl, hc⟩ := hb.at' (by omega)
  have hsm := hb.small
  clear hb
  by_cases hfit : i + s.size ≤ n
  · have hlt : ¬ ((n : Int) - i < s.size) := by omega
    go_enter Try.func32, Try.ntmps32
    go_wp2
    go_loopg [7] s.size (fun g vj wr => ∃ k : Nat, vj = .int .i64 k ∧ k + g = s.size ∧ (∀ j (h : j < s.size), j < k → v (i + j) = (s[j]'h).toNat) ∧ ∃ m, wr = w.drewN m)
    case atStart => exact ⟨0, rfl, by omega, fun j _ h => by omega, 0, rfl⟩
    case round =>
      obtain ⟨k, rfl, hg, hse, mm, rfl⟩ := hrel
      have HS : Hid (∀ j (h : j < s.size), j < k → v (i + j) = (s[j]'h).toNat) := hse
      clear hse
      cases gk with
      | zero =>
        clear hc hsm
        go_wp2
        go_ret
        exact ⟨⟨true, rfl, fun _ => ⟨hfit, fun j h => HS.out j h (by omega)⟩⟩, _, rfl⟩
      | succ g =>
        have hk : k < s.size := by omega
        have hcj := hc (i + k) (by omega)
        have hj8 := hsm (i + k)
        clear hc hsm
        by_cases he : v (i + k) = (s[k]'hk).toNat
        · have HS2 : Hid (∀ j (h : j < s.size), j < k + 1 → v (i + j) = (s[j]'h).toNat) := fun j h hjk => by
            rcases Nat.lt_or_ge j k with h1 | h1
            · exact HS.out j h h1
            · obtain rfl : j = k := by omega
              exact he
          rw [he] at hcj
          obtain ⟨x, hx⟩ : ∃ x, (s[k]'hk).toNat = x := ⟨_, rfl⟩
          rw [hx] at hcj
          clear he HS hj8
          go_wp2
          go_quiet (fail)
          go_wp2
          go_roundg g
          case measure => omega
          case rel => exact ⟨k + 1, by go_num, by omega, HS2.out, _, rfl⟩
        · obtain ⟨x, hx⟩ : ∃ x, (s[k]'hk).toNat = x := ⟨_, rfl⟩
          obtain ⟨y, hy⟩ : ∃ y, v (i + k) = y := ⟨_, rfl⟩
          rw [hx, hy] at he
          rw [hy] at hcj hj8
          have e1 : ((y : Int) == x) = false := by rw [beq_eq_false_iff_ne]; omega
          clear he HS hy
          go_wp2
          go_quiet (fail)
          go_wp2
          go_ret
          exact ⟨⟨false, rfl, fun h => (by cases h)⟩, _, by rw [World.drewN_drewN]⟩
  · have hlt : ((n : Int) - i < s.size) := by omega
    go_enter Try.func32, Try.ntmps32
    go_wp2
    go_ret
    exact ⟨⟨false, rfl, fun h => (by cases h)⟩, 0, rfl⟩

end Go.Proofs.Qxb6602476a
