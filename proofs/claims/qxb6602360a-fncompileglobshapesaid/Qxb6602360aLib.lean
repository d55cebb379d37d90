/-
  WALKS: what parseBracket and compileGlob call of strings.
-/
import Derived.Test.Qxb6602360aClass
import Derived.Laws.Externs
import Derived.Laws.Runes
import Derived.Deep.QuietTactic
import Derived.BigQuiet
namespace Go.Proofs.Qxb6602360a
open Go.RowKit Plain

/-- The byte at place k, as a number (0 beyond the end). -/
def bt (s : ByteArray) (k : Nat) : Nat := (s.data.toList[k]?.getD 0).toNat
theorem bt_eq (s : ByteArray) (k : Nat) (h : k < s.size) : bt s k = (s[k]'h).toNat := by
  unfold bt
  have : s.data.toList[k]? = some (s[k]'h) := by
    rw [Array.getElem?_toList]
    exact Array.getElem?_eq_getElem h
  rw [this]; rfl
theorem bt_lt (s : ByteArray) (k : Nat) : bt s k < 256 := (s.data.toList[k]?.getD 0).toNat_lt
theorem size_len (s : ByteArray) : s.size = s.data.toList.length := by simp only [Array.length_toList]; rfl
theorem size_extract (s : ByteArray) (a b : Nat) : (s.extract a b).size = min b s.size - a := by simp

set_option maxRecDepth 1000000 in
set_option maxHeartbeats 1000000 in
theorem ib66 (s : ByteArray) (c : Int) (w : World) :
    Calls Try.prog 66 #[.string s, .int .u8 c] w fun e w' => e = .returned (.int .i64 (firstIdx s c.toNat.toUInt8)) ∧ w' = w := by
  go_enter Try.func66, Try.ntmps66
  go_wp2
  rw [run_callFunc_extern Try.func70 (by kernel_rfl) (by kernel_rfl) (by kernel_rfl) (e := Extern.BytealgIndexByte.indexByte) (by kernel_rfl), run_indexByte_string]
  simp only [Result.andThen]
  rw [Oper.upon_value]
  go_wp2
  go_ret
  exact ⟨rfl, rfl⟩

theorem first_range (s : ByteArray) (c : UInt8) : firstIdx s c = -1 ∨ ∃ i : Nat, firstIdx s c = i ∧ i < s.size := by
  unfold firstIdx
  cases h : (List.range s.size).find? (fun i => s[i]! == c) with
  | none => exact Or.inl rfl
  | some i => exact Or.inr ⟨i, rfl, List.mem_range.1 (List.mem_of_find?_eq_some h)⟩

theorem ret_i64 {a b : Int} (h : a = b) : Ending.returned (.int .i64 a) = .returned (.int .i64 b) := by rw [h]

set_option maxRecDepth 1000000 in
set_option maxHeartbeats 1000000 in
theorem index64 (s : ByteArray) (n : Int) (hn : firstIdx s 93 = n) (w : World) :
    Calls Try.prog 64 #[.string s, .string ⟨#[93]⟩] w fun e w' => e = .returned (.int .i64 n) ∧ w' = w := by
  have HN : Hid (firstIdx s 93 = n) := hn
  clear hn
  cases hq : ([93] == s.toList) with
  | true =>
    have h0 : Hid (0 = n) := by
      have e : s.toList = [93] := (beq_iff_eq.1 hq).symm
      rw [ByteArray.toList_eq] at e
      have e2 : s = ⟨#[93]⟩ := by
        cases s with
        | mk d => cases d with
          | mk l => exact congrArg (fun l => ByteArray.mk ⟨l⟩) e
      have := HN.out
      rw [e2] at this
      have d : 0 = firstIdx ⟨#[93]⟩ 93 := by decide
      exact d.trans this
    go_enter Try.func64, Try.ntmps64
    go_wp2_with (go_at_call 66; refine (ib66 _ _ _).mono ?_; rintro e w1 ⟨rfl, rfl⟩)
    go_ret
    exact ⟨ret_i64 h0.out, rfl⟩
  | false =>
    go_enter Try.func64, Try.ntmps64
    go_wp2_with (go_at_call 66; refine (ib66 _ _ _).mono ?_; rintro e w1 ⟨rfl, rfl⟩)
    go_ret
    exact ⟨ret_i64 HN.out, rfl⟩

/-- What strings.Cut(s, "]") hands back. -/
def CutB (s nm af : ByteArray) (b : Bool) : Prop := (b = false ∧ nm = s ∧ af = ⟨#[]⟩) ∨ (b = true ∧ nm.size + 1 ≤ s.size)

set_option maxRecDepth 1000000 in
set_option maxHeartbeats 1000000 in
theorem cut56 (s : ByteArray) (hs : s.size ≤ 65536) (w : World) :
    Calls Try.prog 56 #[.string s, .string ⟨#[93]⟩] w fun e w' => (∃ nm af b, CutB s nm af b ∧ e = .returned (.tuple #[.string nm, .string af, .bool b])) ∧ ∃ n, w' = w.drewN n := by
  rcases first_range s 93 with h | ⟨i, h, hi⟩
  · have h62 : ∀ w, Calls Try.prog 62 #[.string s, .string ⟨#[93]⟩] w fun e w' => e = .returned (.tuple #[.string s, .string ⟨#[]⟩, .bool false]) ∧ w' = w := by
      intro w
      go_enter Try.func62, Try.ntmps62
      go_wp2_with (go_at_call 64; refine (index64 _ _ h _).mono ?_; rintro e w1 ⟨rfl, rfl⟩)
      go_ret3
      exact ⟨rfl, rfl⟩
    have H62 : Hid (∀ w, Calls Try.prog 62 #[.string s, .string ⟨#[93]⟩] w fun e w' => e = .returned (.tuple #[.string s, .string ⟨#[]⟩, .bool false]) ∧ w' = w) := h62
    clear h62
    go_enter Try.func56, Try.ntmps56
    go_wp2_with (go_at_call 62; refine (H62.out _).mono ?_; rintro e w1 ⟨rfl, rfl⟩)
    go_ret3
    exact ⟨⟨s, _, false, Or.inl ⟨rfl, rfl, rfl⟩, rfl⟩, 0, rfl⟩
  · have h62 : ∀ w, Calls Try.prog 62 #[.string s, .string ⟨#[93]⟩] w fun e w' => e = .returned (.tuple #[.string (s.extract 0 i), .string (s.extract (i + 1) s.size), .bool true]) ∧ ∃ n, w' = w.drewN n := by
      intro w
      go_enter Try.func62, Try.ntmps62
      go_wp2_with (go_at_call 64; refine (index64 _ _ h _).mono ?_; rintro e w1 ⟨rfl, rfl⟩)
      have hi2 : (i : Int) + 1 ≤ (s.size : Int) := by omega
      go_quiet (fail)
      go_wp2
      go_ret3
      exact ⟨rfl, _, rfl⟩
    have H62 : Hid (∀ w, Calls Try.prog 62 #[.string s, .string ⟨#[93]⟩] w fun e w' => e = .returned (.tuple #[.string (s.extract 0 i), .string (s.extract (i + 1) s.size), .bool true]) ∧ ∃ n, w' = w.drewN n) := h62
    clear h62
    go_enter Try.func56, Try.ntmps56
    go_wp2_with (go_at_call 62; refine (H62.out _).mono ?_; rintro e w1 ⟨rfl, n1, rfl⟩)
    go_ret3
    exact ⟨⟨_, _, true, Or.inr ⟨rfl, by rw [size_extract]; omega⟩, rfl⟩, _, rfl⟩

/-- The call hands back a string and a bool. -/
def RetStrBool (e : Ending) : Prop := ∃ c v, e = .returned (.tuple #[.string c, .bool v])

set_option maxRecDepth 1000000 in
set_option maxHeartbeats 1000000 in
theorem cutSuffix57 (s : ByteArray) (hs : s.size ≤ 65536) (w : World) :
    Calls Try.prog 57 #[.string s, .string ⟨#[58]⟩] w fun e w' => RetStrBool e ∧ w' = w := by
  by_cases h0 : s.size = 0
  · go_enter Try.func57, Try.ntmps57
    go_wp2
    all_goals (go_ret2; exact ⟨⟨_, _, rfl⟩, rfl⟩)
  · have h1 : 1 ≤ s.size := by omega
    clear h0
    go_enter Try.func57, Try.ntmps57
    go_wp2
    all_goals (go_ret2; exact ⟨⟨_, _, rfl⟩, rfl⟩)

/-- The call hands back a bool; true only where p. -/
def RetBoolIf (p : Prop) (e : Ending) : Prop := ∃ v : Bool, (v = true → p) ∧ e = .returned (.bool v)

set_option maxRecDepth 1000000 in
set_option maxHeartbeats 1000000 in
theorem hasPrefix55a (s : ByteArray) (hs : s.size ≤ 65536) (w : World) :
    Calls Try.prog 55 #[.string s, .string ⟨#[58]⟩] w fun e w' => RetBoolIf (1 ≤ s.size) e ∧ w' = w := by
  by_cases h0 : s.size = 0
  · go_enter Try.func55, Try.ntmps55
    go_wp2
    all_goals (go_ret; exact ⟨⟨false, fun h => (by cases h), rfl⟩, rfl⟩)
  · have h1 : 1 ≤ s.size := by omega
    clear h0
    go_enter Try.func55, Try.ntmps55
    go_wp2
    all_goals (go_ret; exact ⟨⟨_, fun _ => h1, rfl⟩, rfl⟩)

set_option maxRecDepth 1000000 in
set_option maxHeartbeats 1000000 in
theorem hasPrefix55b (s : ByteArray) (hs : s.size ≤ 65536) (w : World) :
    Calls Try.prog 55 #[.string s, .string ⟨#[92, 47]⟩] w fun e w' => RetBool e ∧ w' = w := by
  by_cases h0 : s.size < 2
  · go_enter Try.func55, Try.ntmps55
    go_wp2
    all_goals (go_ret; exact ⟨⟨_, rfl⟩, rfl⟩)
  · have h1 : 2 ≤ s.size := by omega
    clear h0
    go_enter Try.func55, Try.ntmps55
    go_wp2
    all_goals (go_ret; exact ⟨⟨_, rfl⟩, rfl⟩)

end Go.Proofs.Qxb6602360a
