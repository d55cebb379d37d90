/-
  WALKS: cutSign, withoutExponent over IndexAny's contract.
-/
import Derived.Test.Qxb6601839aWalk2
import Derived.Deep.QuietTactic
import Derived.BigQuiet
namespace Go.Proofs.Qxb6601839a
open Go.RowKit Plain

theorem head_list (s : ByteArray) (h : 0 < s.size) : (s.extract 0 1).toList = [s[0]'h] := by
  rw [ByteArray.toList_eq]
  apply List.ext_getElem?
  intro i
  have hl : (s.extract 0 1).data.toList.length = 1 := by rw [← size_len, size_extract]; omega
  match i with
  | 0 =>
    have e : (s.extract 0 1).data.toList[0]? = some ((s.extract 0 1)[0]'(by rw [size_extract]; omega)) := by
      rw [Array.getElem?_toList]; exact Array.getElem?_eq_getElem _
    rw [e]; simp [ByteArray.getElem_extract]
  | i + 1 => rw [List.getElem?_eq_none (by omega)]; simp

theorem head_is (s : ByteArray) (h : 0 < s.size) (n : UInt8) : ((s.extract 0 1).toList == [n]) = decide (bt s 0 = n.toNat) := by
  rw [head_list s h, bt_eq s 0 h]
  by_cases e : s[0]'h = n
  · subst e; simp
  · rw [decide_eq_false (fun c => e (UInt8.toNat_inj.1 c))]; simpa using e

/-- What cutSign leaves of s. -/
def Left (s t : ByteArray) : Prop := (s.size ≠ 0 ∧ Sg (bt s 0) ∧ t = s.extract 1 s.size) ∨ (¬ (s.size ≠ 0 ∧ Sg (bt s 0)) ∧ t = s)

set_option maxHeartbeats 1000000 in
theorem cutSign_no (s : ByteArray) (hs : s.size ≤ 1048576) (h : ¬ (s.size ≠ 0 ∧ Sg (bt s 0))) (w : World) :
    Calls Try.prog 24 #[.string s] w fun e w' => e = .returned (.tuple #[.string s, .string ByteArray.empty]) ∧ w' = w := by
  have H : Hid (¬ (s.size ≠ 0 ∧ Sg (bt s 0))) := h
  clear h
  by_cases h0 : s.size = 0
  · go_enter Try.func24, Try.ntmps24
    go_wp2
    go_ret2
    exact ⟨rfl, rfl⟩
  · have h1 : ((s.extract 0 1).toList == [43]) = false := by
      rw [head_is s (by omega)]; exact decide_eq_false fun c => H.out ⟨h0, Or.inl c⟩
    have h2 : ((s.extract 0 1).toList == [45]) = false := by
      rw [head_is s (by omega)]; exact decide_eq_false fun c => H.out ⟨h0, Or.inr c⟩
    go_enter Try.func24, Try.ntmps24
    go_wp2
    go_ret2
    exact ⟨rfl, rfl⟩

set_option maxHeartbeats 1000000 in
theorem cutSign_yes (s : ByteArray) (hs : s.size ≤ 1048576) (h0 : s.size ≠ 0) (h : Sg (bt s 0)) (w : World) :
    Calls Try.prog 24 #[.string s] w fun e w' => e = .returned (.tuple #[.string (s.extract 1 s.size), .string (s.extract 0 1)]) ∧ ∃ n, w' = w.drewN n := by
  have H : Hid (Sg (bt s 0)) := h
  clear h
  have hz : (1 : Int) ≤ (s.size : Int) := by omega
  have h1 : ((s.extract 0 1).toList == [43]) = true ∨ ((s.extract 0 1).toList == [43]) = false ∧ ((s.extract 0 1).toList == [45]) = true := by
    rw [head_is s (by omega), head_is s (by omega)]
    rcases H.out with c | c
    · exact Or.inl (decide_eq_true c)
    · exact Or.inr ⟨decide_eq_false (by rw [c]; decide), decide_eq_true c⟩
  rcases h1 with h1 | ⟨h1, h2⟩
  all_goals
    go_enter Try.func24, Try.ntmps24
    go_wp2
    go_quiet (fail)
    go_wp2
    go_ret2
    exact ⟨rfl, _, rfl⟩

end Go.Proofs.Qxb6601839a
