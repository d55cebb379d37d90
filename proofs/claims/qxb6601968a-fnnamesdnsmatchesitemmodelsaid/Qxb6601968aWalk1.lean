/-
  WALKS: the bound on lengths, isTemplateOperator, IndexByte, TrimSuffix.
-/
import Derived.Test.Qxb6601968aProg
import Derived.Test.Qxb6601968aPlain
import Derived.WalkKit
import Derived.WalkSpells
import Derived.WalkLawsBesides
import Derived.Laws.Externs
import Derived.Laws.Runes
namespace Go.Proofs.Qxb6601968a
open Go.RowKit Plain

theorem ret_bool {a b : Bool} (h : a = b) : Ending.returned (.bool a) = .returned (.bool b) := by rw [h]

set_option maxHeartbeats 400000 in
theorem bytes8_yes (s : ByteArray) (hs : s.size ≤ 1048576) (w : World) :
    Calls Try.prog 8 #[.string s] w fun e w' => e = .returned (.bool true) ∧ w' = w := by
  go_enter Try.func8, Try.ntmps8
  go_wp2
  go_ret
  exact ⟨rfl, rfl⟩
set_option maxHeartbeats 400000 in
theorem bytes8_no (s : ByteArray) (hm : s.size ≤ maxLen) (hs : 1048576 < s.size) (w : World) :
    Calls Try.prog 8 #[.string s] w fun e w' => e = .returned (.bool false) ∧ w' = w := by
  unfold maxLen at hm
  go_enter Try.func8, Try.ntmps8
  go_wp2
  go_ret
  exact ⟨rfl, rfl⟩

/-- The twelve operators. -/
def Op12 (n : Nat) : Prop := n = 43 ∨ n = 35 ∨ n = 46 ∨ n = 47 ∨ n = 59 ∨ n = 63 ∨ n = 38 ∨ n = 61 ∨ n = 44 ∨ n = 33 ∨ n = 64 ∨ n = 124
theorem not12 {c : Nat} (h : ¬ Op12 c) : ((c : Int) == 43) = false ∧ ((c : Int) == 35) = false ∧ ((c : Int) == 46) = false ∧ ((c : Int) == 47) = false ∧ ((c : Int) == 59) = false ∧ ((c : Int) == 63) = false ∧ ((c : Int) == 38) = false ∧ ((c : Int) == 61) = false ∧ ((c : Int) == 44) = false ∧ ((c : Int) == 33) = false ∧ ((c : Int) == 64) = false ∧ ((c : Int) == 124) = false := by
  unfold Op12 at h
  refine ⟨?_, ?_, ?_, ?_, ?_, ?_, ?_, ?_, ?_, ?_, ?_, ?_⟩ <;> (rw [beq_eq_false_iff_ne]; omega)

set_option maxHeartbeats 1000000 in
theorem op_yes (c : Nat) (h : Op12 c) (w : World) :
    Calls Try.prog 12 #[.int .u8 c] w fun e w' => e = .returned (.bool true) ∧ w' = w := by
  rcases h with rfl | rfl | rfl | rfl | rfl | rfl | rfl | rfl | rfl | rfl | rfl | rfl
  all_goals
    go_enter Try.func12, Try.ntmps12
    go_wp2
    go_ret
    exact ⟨rfl, rfl⟩
set_option maxHeartbeats 1000000 in
theorem op_no (c : Nat) (h : ¬ Op12 c) (w : World) :
    Calls Try.prog 12 #[.int .u8 c] w fun e w' => e = .returned (.bool false) ∧ w' = w := by
  obtain ⟨h1, h2, h3, h4, h5, h6, h7, h8, h9, h10, h11, h12⟩ := not12 h
  clear h
  go_enter Try.func12, Try.ntmps12
  go_wp2
  go_ret
  exact ⟨rfl, rfl⟩

set_option maxRecDepth 1000000 in
set_option maxHeartbeats 1000000 in
theorem ib29 (s : ByteArray) (c : Int) (w : World) :
    Calls Try.prog 29 #[.string s, .int .u8 c] w fun e w' => e = .returned (.int .i64 (firstIdx s c.toNat.toUInt8)) ∧ w' = w := by
  go_enter Try.func29, Try.ntmps29
  go_wp2
  rw [run_callFunc_extern Try.func31 (by kernel_rfl) (by kernel_rfl) (by kernel_rfl) (e := Extern.BytealgIndexByte.indexByte) (by kernel_rfl), run_indexByte_string]
  simp only [Result.andThen]
  rw [Oper.upon_value]
  go_wp2
  go_ret
  exact ⟨rfl, rfl⟩

theorem first_col (s : ByteArray) : FirstC s (firstIdx s 58) := by
  unfold firstIdx
  cases h : (List.range s.size).find? (fun i => s[i]! == 58) with
  | none =>
    refine Or.inl ⟨rfl, fun j hj e => ?_⟩
    have := List.find?_eq_none.1 h j (List.mem_range.2 hj)
    rw [getElem!_pos s j hj] at this
    rw [bt_eq s j hj] at e
    exact this (by rw [beq_iff_eq]; exact UInt8.toNat_inj.1 e)
  | some i =>
    have h1 := List.find?_range_eq_some.1 h
    have hi : i < s.size := List.mem_range.1 h1.2.1
    refine Or.inr ⟨i, rfl, hi, ?_, fun j hj e => ?_⟩
    · have := h1.1
      rw [getElem!_pos s i hi, beq_iff_eq] at this
      rw [bt_eq s i hi, this]; rfl
    · have := h1.2.2 j hj
      rw [getElem!_pos s j (by omega)] at this
      rw [bt_eq s j (by omega)] at e
      have e2 : s[j]'(by omega) = 58 := UInt8.toNat_inj.1 e
      simp [e2] at this

theorem firstC_uniq {s : ByteArray} {n m : Int} (h : FirstC s n) (g : FirstC s m) : n = m := by
  rcases h with ⟨rfl, hn⟩ | ⟨i, rfl, hi, he, hno⟩ <;> rcases g with ⟨rfl, gn⟩ | ⟨j, rfl, hj, ge, gno⟩
  · rfl
  · exact absurd ge (hn j hj)
  · exact absurd he (gn i hi)
  · rcases Nat.lt_trichotomy i j with l | l | l
    · exact absurd he (gno i l)
    · rw [l]
    · exact absurd ge (hno j l)

set_option maxRecDepth 1000000 in
set_option maxHeartbeats 1000000 in
theorem ib_any (s : ByteArray) (n : Int) (hn : FirstC s n) (w : World) :
    Calls Try.prog 24 #[.string s, .int .u8 58] w fun e w' => e = .returned (.int .i64 n) ∧ w' = w := by
  have HN : Hid (firstIdx s 58 = n) := firstC_uniq (first_col s) hn
  clear hn
  go_enter Try.func24, Try.ntmps24
  go_wp2_with (go_at_call 29; refine (ib29 _ _ _).mono ?_; rintro e w' ⟨rfl, rfl⟩)
  go_ret
  exact ⟨by rw [← HN.out]; rfl, rfl⟩

theorem last_list (s : ByteArray) (h : 0 < s.size) : (s.extract (s.size - 1) s.size).toList = [s[s.size - 1]'(by omega)] := by
  rw [ByteArray.toList_eq]
  apply List.ext_getElem?
  intro i
  have hl : (s.extract (s.size - 1) s.size).data.toList.length = 1 := by rw [← size_len, size_extract]; omega
  match i with
  | 0 =>
    have e : (s.extract (s.size - 1) s.size).data.toList[0]? = some ((s.extract (s.size - 1) s.size)[0]'(by rw [size_extract]; omega)) := by
      rw [Array.getElem?_toList]; exact Array.getElem?_eq_getElem _
    rw [e]; simp [ByteArray.getElem_extract]
  | i + 1 => rw [List.getElem?_eq_none (by omega)]; simp
theorem last_is (s : ByteArray) (h : 0 < s.size) (n : UInt8) : ((s.extract (s.size - 1) s.size).toList == [n]) = decide (bt s (s.size - 1) = n.toNat) := by
  rw [last_list s h, bt_eq s (s.size - 1) (by omega)]
  by_cases e : s[s.size - 1]'(by omega) = n
  · subst e; simp
  · rw [decide_eq_false (fun c => e (UInt8.toNat_inj.1 c))]; simpa using e

set_option maxRecDepth 1000000 in
set_option maxHeartbeats 1000000 in
theorem trim_yes (s : ByteArray) (hs : s.size ≤ 1048576) (h0 : 0 < s.size) (h : bt s (s.size - 1) = 42) (w : World) :
    Calls Try.prog 25 #[.string s, .string ⟨#[42]⟩] w fun e w' => e = .returned (.string (s.extract 0 (s.size - 1))) ∧ w' = w := by
  have h1 : ((s.extract (s.size - 1) s.size).toList == [42]) = true := by rw [last_is s h0, h]; rfl
  clear h
  go_enter Try.func25, Try.ntmps25
  go_wp2
  go_ret
  exact ⟨rfl, rfl⟩

set_option maxRecDepth 1000000 in
set_option maxHeartbeats 1000000 in
theorem trim_no (s : ByteArray) (hs : s.size ≤ 1048576) (h : ¬ (0 < s.size ∧ bt s (s.size - 1) = 42)) (w : World) :
    Calls Try.prog 25 #[.string s, .string ⟨#[42]⟩] w fun e w' => e = .returned (.string s) ∧ w' = w := by
  by_cases h0 : s.size = 0
  · clear h
    go_enter Try.func25, Try.ntmps25
    go_wp2
    go_ret
    exact ⟨rfl, rfl⟩
  · have h1 : ((s.extract (s.size - 1) s.size).toList == [42]) = false := by
      rw [last_is s (by omega)]; exact decide_eq_false fun e => h ⟨by omega, e⟩
    clear h
    go_enter Try.func25, Try.ntmps25
    go_wp2
    go_ret
    exact ⟨rfl, rfl⟩

end Go.Proofs.Qxb6601968a
