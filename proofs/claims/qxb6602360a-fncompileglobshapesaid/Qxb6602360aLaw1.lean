/-
  WALKS: the law's own small functions.
-/
import Derived.Test.Qxb6602360aShape
namespace Go.Proofs.Qxb6602360a
open Go.RowKit Plain

def aggOf (s : S4) : Value := .agg #[.int .u64 s.a, .int .u64 s.b, .int .u64 s.c, .int .u64 s.d]

theorem made_one (w : World) (o : Obj) : Made w (w.alloc o) := (Made.refl w).alloc o

set_option maxRecDepth 1000000 in
set_option maxHeartbeats 1000000 in
theorem bitHas_any (s : S4) (hs : s.ok) (x : Nat) (hx : x < 256) (w : World) :
    Calls Try.prog 26 #[aggOf s, .int .i64 x] w fun e w' => e = .returned (.bool (s.has x)) ∧ Made w w' := by
  obtain ⟨q, r, hq4, hr64, hqr⟩ : ∃ q r, q < 4 ∧ r < 64 ∧ x = 64 * q + r := ⟨x / 64, x % 64, by omega, by omega, by omega⟩
  have e1 : x / 64 = q := by omega
  have e2 : x % 64 = r := by omega
  have fin : Hid ((bits .and .u64 (s.word q : Int) (IntKind.u64.wrap (2 ^ r)) != 0) = s.has x) := by
    have : (bits .and .u64 (s.word q : Int) (IntKind.u64.wrap (2 ^ r)) != 0) = s.has x := by
      rw [and_pow _ r (S4.ok_word hs q) hr64, and_pow_ne]
      unfold S4.has
      rw [e1, e2]
    exact this
  have hq : (x : Int) / 64 = q := by omega
  have hr : (x : Int) % 64 = r := by omega
  have hr2 : ((r : Int)).toNat = r := by omega
  clear e1 e2 hqr hs
  unfold aggOf
  rcases (show q = 0 ∨ q = 1 ∨ q = 2 ∨ q = 3 by omega) with rfl | rfl | rfl | rfl
  all_goals
    clear hq4
    go_enter Try.func26, Try.ntmps26
    go_wp2
    go_ret
    exact ⟨ret_bool fin.out, made_one _ _⟩

set_option maxRecDepth 1000000 in
set_option maxHeartbeats 1000000 in
theorem bitWith_any (s : S4) (hs : s.ok) (x : Nat) (hx : x < 256) (w : World) :
    Calls Try.prog 17 #[aggOf s, .int .i64 x] w fun e w' => e = .returned (aggOf (s.add x)) ∧ Made w w' := by
  obtain ⟨q, r, hq4, hr64, hqr⟩ : ∃ q r, q < 4 ∧ r < 64 ∧ x = 64 * q + r := ⟨x / 64, x % 64, by omega, by omega, by omega⟩
  have e1 : x / 64 = q := by omega
  have e2 : x % 64 = r := by omega
  have fin : Hid (aggOf (s.add x) = aggOf (s.put q (s.word q ||| 2 ^ r))) := by
    show aggOf (s.add x) = _
    unfold S4.add; rw [e1, e2]
  have hbits := or_pow (s.word q) r (S4.ok_word hs q) hr64
  have hq : (x : Int) / 64 = q := by omega
  have hr : (x : Int) % 64 = r := by omega
  have hr2 : ((r : Int)).toNat = r := by omega
  clear e1 e2 hqr hs
  rcases (show q = 0 ∨ q = 1 ∨ q = 2 ∨ q = 3 by omega) with rfl | rfl | rfl | rfl
  · clear hq4
    have hb : bits .or .u64 (s.a : Int) (IntKind.u64.wrap (2 ^ r)) = ((s.a ||| 2 ^ r : Nat) : Int) := hbits
    rw [fin.out]
    clear hbits fin
    unfold aggOf
    go_enter Try.func17, Try.ntmps17
    go_wp2
    refine bodyPost_ret (v := .agg #[.int .u64 ((s.a ||| 2 ^ r : Nat) : Int), .int .u64 ((s.b : Nat) : Int), .int .u64 ((s.c : Nat) : Int), .int .u64 ((s.d : Nat) : Int)]) (by simp [results, Try.results17, go_sem]) rfl ⟨rfl, (((Made.refl w).alloc _).alloc _)⟩
  · clear hq4
    have hb : bits .or .u64 (s.b : Int) (IntKind.u64.wrap (2 ^ r)) = ((s.b ||| 2 ^ r : Nat) : Int) := hbits
    rw [fin.out]
    clear hbits fin
    unfold aggOf
    go_enter Try.func17, Try.ntmps17
    go_wp2
    refine bodyPost_ret (v := .agg #[.int .u64 ((s.a : Nat) : Int), .int .u64 ((s.b ||| 2 ^ r : Nat) : Int), .int .u64 ((s.c : Nat) : Int), .int .u64 ((s.d : Nat) : Int)]) (by simp [results, Try.results17, go_sem]) rfl ⟨rfl, (((Made.refl w).alloc _).alloc _)⟩
  · clear hq4
    have hb : bits .or .u64 (s.c : Int) (IntKind.u64.wrap (2 ^ r)) = ((s.c ||| 2 ^ r : Nat) : Int) := hbits
    rw [fin.out]
    clear hbits fin
    unfold aggOf
    go_enter Try.func17, Try.ntmps17
    go_wp2
    refine bodyPost_ret (v := .agg #[.int .u64 ((s.a : Nat) : Int), .int .u64 ((s.b : Nat) : Int), .int .u64 ((s.c ||| 2 ^ r : Nat) : Int), .int .u64 ((s.d : Nat) : Int)]) (by simp [results, Try.results17, go_sem]) rfl ⟨rfl, (((Made.refl w).alloc _).alloc _)⟩
  · clear hq4
    have hb : bits .or .u64 (s.d : Int) (IntKind.u64.wrap (2 ^ r)) = ((s.d ||| 2 ^ r : Nat) : Int) := hbits
    rw [fin.out]
    clear hbits fin
    unfold aggOf
    go_enter Try.func17, Try.ntmps17
    go_wp2
    refine bodyPost_ret (v := .agg #[.int .u64 ((s.a : Nat) : Int), .int .u64 ((s.b : Nat) : Int), .int .u64 ((s.c : Nat) : Int), .int .u64 ((s.d ||| 2 ^ r : Nat) : Int)]) (by simp [results, Try.results17, go_sem]) rfl ⟨rfl, (((Made.refl w).alloc _).alloc _)⟩

set_option maxRecDepth 1000000 in
set_option maxHeartbeats 1000000 in
theorem bitWithout_any (s : S4) (hs : s.ok) (x : Nat) (hx : x < 256) (w : World) :
    Calls Try.prog 32 #[aggOf s, .int .i64 x] w fun e w' => e = .returned (aggOf (s.remove x)) ∧ Made w w' := by
  obtain ⟨q, r, hq4, hr64, hqr⟩ : ∃ q r, q < 4 ∧ r < 64 ∧ x = 64 * q + r := ⟨x / 64, x % 64, by omega, by omega, by omega⟩
  have e1 : x / 64 = q := by omega
  have e2 : x % 64 = r := by omega
  have fin : Hid (aggOf (s.remove x) = aggOf (s.put q (s.word q &&& (18446744073709551615 - 2 ^ r)))) := by
    show aggOf (s.remove x) = _
    unfold S4.remove; rw [e1, e2]
  have hbits := andNot_pow (s.word q) r (S4.ok_word hs q) hr64
  have hq : (x : Int) / 64 = q := by omega
  have hr : (x : Int) % 64 = r := by omega
  have hr2 : ((r : Int)).toNat = r := by omega
  clear e1 e2 hqr hs
  rcases (show q = 0 ∨ q = 1 ∨ q = 2 ∨ q = 3 by omega) with rfl | rfl | rfl | rfl
  · clear hq4
    have hb : bits .andNot .u64 (s.a : Int) (IntKind.u64.wrap (2 ^ r)) = ((s.a &&& (18446744073709551615 - 2 ^ r) : Nat) : Int) := hbits
    rw [fin.out]
    clear hbits fin
    unfold aggOf
    go_enter Try.func32, Try.ntmps32
    go_wp2
    refine bodyPost_ret (v := .agg #[.int .u64 ((s.a &&& (18446744073709551615 - 2 ^ r) : Nat) : Int), .int .u64 ((s.b : Nat) : Int), .int .u64 ((s.c : Nat) : Int), .int .u64 ((s.d : Nat) : Int)]) (by simp [results, Try.results32, go_sem]) rfl ⟨rfl, (((Made.refl w).alloc _).alloc _)⟩
  · clear hq4
    have hb : bits .andNot .u64 (s.b : Int) (IntKind.u64.wrap (2 ^ r)) = ((s.b &&& (18446744073709551615 - 2 ^ r) : Nat) : Int) := hbits
    rw [fin.out]
    clear hbits fin
    unfold aggOf
    go_enter Try.func32, Try.ntmps32
    go_wp2
    refine bodyPost_ret (v := .agg #[.int .u64 ((s.a : Nat) : Int), .int .u64 ((s.b &&& (18446744073709551615 - 2 ^ r) : Nat) : Int), .int .u64 ((s.c : Nat) : Int), .int .u64 ((s.d : Nat) : Int)]) (by simp [results, Try.results32, go_sem]) rfl ⟨rfl, (((Made.refl w).alloc _).alloc _)⟩
  · clear hq4
    have hb : bits .andNot .u64 (s.c : Int) (IntKind.u64.wrap (2 ^ r)) = ((s.c &&& (18446744073709551615 - 2 ^ r) : Nat) : Int) := hbits
    rw [fin.out]
    clear hbits fin
    unfold aggOf
    go_enter Try.func32, Try.ntmps32
    go_wp2
    refine bodyPost_ret (v := .agg #[.int .u64 ((s.a : Nat) : Int), .int .u64 ((s.b : Nat) : Int), .int .u64 ((s.c &&& (18446744073709551615 - 2 ^ r) : Nat) : Int), .int .u64 ((s.d : Nat) : Int)]) (by simp [results, Try.results32, go_sem]) rfl ⟨rfl, (((Made.refl w).alloc _).alloc _)⟩
  · clear hq4
    have hb : bits .andNot .u64 (s.d : Int) (IntKind.u64.wrap (2 ^ r)) = ((s.d &&& (18446744073709551615 - 2 ^ r) : Nat) : Int) := hbits
    rw [fin.out]
    clear hbits fin
    unfold aggOf
    go_enter Try.func32, Try.ntmps32
    go_wp2
    refine bodyPost_ret (v := .agg #[.int .u64 ((s.a : Nat) : Int), .int .u64 ((s.b : Nat) : Int), .int .u64 ((s.c : Nat) : Int), .int .u64 ((s.d &&& (18446744073709551615 - 2 ^ r) : Nat) : Int)]) (by simp [results, Try.results32, go_sem]) rfl ⟨rfl, (((Made.refl w).alloc _).alloc _)⟩

set_option maxHeartbeats 1000000 in
theorem letter36 (x : Nat) (hx : x < 256) (w : World) :
    Calls Try.prog 36 #[.int .i64 x] w fun e w' => e = .returned (.bool (letter x)) ∧ w' = w := by
  by_cases h1 : 97 ≤ x
  · have hl : Hid (decide ((x : Int) ≤ 122) = letter x) := by
      show decide ((x : Int) ≤ 122) = letter x
      unfold letter
      rw [Bool.eq_iff_iff]
      simp only [decide_eq_true_eq, Bool.or_eq_true, Bool.and_eq_true]
      omega
    by_cases h2 : x ≤ 122
    · have hl2 : Hid (true = letter x) := by show true = letter x; rw [← hl.out]; symm; exact decide_eq_true (by omega)
      go_enter Try.func36, Try.ntmps36
      go_wp2
      go_ret
      exact ⟨ret_bool hl2.out, rfl⟩
    · have hl2 : Hid (false = letter x) := by show false = letter x; rw [← hl.out]; symm; exact decide_eq_false (by omega)
      go_enter Try.func36, Try.ntmps36
      go_wp2
      go_ret
      exact ⟨ret_bool (Eq.trans (by simp; omega) hl2.out), rfl⟩
  · by_cases h2 : 65 ≤ x
    · by_cases h3 : x ≤ 90
      · have hl2 : Hid (true = letter x) := by show true = letter x; symm; exact (letter_iff x).2 (by omega)
        go_enter Try.func36, Try.ntmps36
        go_wp2
        go_ret
        exact ⟨ret_bool (Eq.trans (decide_eq_true (by omega)) hl2.out), rfl⟩
      · have hl2 : Hid (false = letter x) := by show false = letter x; symm; exact not_letter (by omega)
        go_enter Try.func36, Try.ntmps36
        go_wp2
        go_ret
        exact ⟨ret_bool (Eq.trans (decide_eq_false (by omega)) hl2.out), rfl⟩
    · have hl2 : Hid (false = letter x) := by show false = letter x; symm; exact not_letter (by omega)
      go_enter Try.func36, Try.ntmps36
      go_wp2
      go_ret
      exact ⟨ret_bool hl2.out, rfl⟩

set_option maxHeartbeats 1000000 in
theorem other37 (x : Nat) (hx : x < 256) (hl : letter x = true) (w : World) :
    Calls Try.prog 37 #[.int .i64 x] w fun e w' => e = .returned (.int .i64 (other x)) ∧ w' = w := by
  have h := (letter_iff x).1 hl
  clear hl
  by_cases h1 : 97 ≤ x ∧ x ≤ 122
  · have e : Hid (((x : Int) - 32) = (other x : Int)) := by show ((x : Int) - 32) = (other x : Int); unfold other; rw [if_pos h1]; omega
    obtain ⟨h1, h2⟩ := h1
    clear h
    go_enter Try.func37, Try.ntmps37
    go_wp2
    go_ret
    exact ⟨ret_i64 e.out, rfl⟩
  · have e : Hid (((x : Int) + 32) = (other x : Int)) := by show ((x : Int) + 32) = (other x : Int); unfold other; rw [if_neg h1]; omega
    have h2 : x ≤ 90 := by omega
    clear h h1
    go_enter Try.func37, Try.ntmps37
    go_wp2
    go_ret
    exact ⟨ret_i64 e.out, rfl⟩

end Go.Proofs.Qxb6602360a
