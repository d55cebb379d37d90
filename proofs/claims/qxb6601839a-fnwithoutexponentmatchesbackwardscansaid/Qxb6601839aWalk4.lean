/-
  WALKS: strings.IndexRune at "eE" and any rune.
-/
import Derived.Test.Qxb6601839aWalk3
import Derived.Laws.RangeAny
import Derived.Laws.Strings3
import Derived.Laws.Runes
import Derived.Deep.LoopGhost
namespace Go.Proofs.Qxb6601839a
open Go.RowKit Plain

set_option maxRecDepth 1000000 in
set_option maxHeartbeats 1000000 in
theorem ib35 (s : ByteArray) (c : Int) (w : World) :
    Calls Try.prog 35 #[.string s, .int .u8 c] w fun e w' => e = .returned (.int .i64 (firstIdx s c.toNat.toUInt8)) ∧ w' = w := by
  go_enter Try.func35, Try.ntmps35
  go_wp2
  rw [run_callFunc_extern Try.func36 (by kernel_rfl) (by kernel_rfl) (by kernel_rfl) (e := Extern.BytealgIndexByte.indexByte) (by kernel_rfl), run_indexByte_string]
  simp only [Result.andThen]
  rw [Oper.upon_value]
  go_wp2
  go_ret
  exact ⟨rfl, rfl⟩

set_option maxRecDepth 1000000 in
set_option maxHeartbeats 1000000 in
theorem ib30 (s : ByteArray) (c : Int) (w : World) :
    Calls Try.prog 30 #[.string s, .int .u8 c] w fun e w' => e = .returned (.int .i64 (firstIdx s c.toNat.toUInt8)) ∧ w' = w := by
  go_enter Try.func30, Try.ntmps30
  go_wp2_with (go_at_call 35; refine (ib35 _ _ _).mono ?_; rintro e w' ⟨rfl, rfl⟩)
  go_ret
  exact ⟨rfl, rfl⟩

theorem first_e : firstIdx ⟨#[101, 69]⟩ 101 = 0 := by decide
theorem first_E : firstIdx ⟨#[101, 69]⟩ 69 = 1 := by decide
theorem first_no (c : UInt8) (h : ¬ E c.toNat) : firstIdx ⟨#[101, 69]⟩ c = -1 := by
  apply firstIdx_none
  intro b hb e
  subst e
  apply h
  simp at hb
  rcases hb with rfl | rfl
  · exact Or.inl rfl
  · exact Or.inr rfl

set_option maxRecDepth 1000000 in
set_option maxHeartbeats 1000000 in
/-- A mark is found in "eE". -/
theorem ir_yes (r : Nat) (h : E r) (w : World) :
    Calls Try.prog 25 #[.string ⟨#[101, 69]⟩, .int .i32 r] w fun e w' => (e = .returned (.int .i64 0) ∨ e = .returned (.int .i64 1)) ∧ w' = w := by
  rcases h with rfl | rfl
  · go_enter Try.func25, Try.ntmps25
    go_wp2_with (go_at_call 30; refine (ib30 _ _ _).mono ?_; rintro e w' ⟨rfl, rfl⟩)
    go_ret
    exact ⟨Or.inl rfl, rfl⟩
  · go_enter Try.func25, Try.ntmps25
    go_wp2_with (go_at_call 30; refine (ib30 _ _ _).mono ?_; rintro e w' ⟨rfl, rfl⟩)
    go_ret
    exact ⟨Or.inr rfl, rfl⟩

set_option maxRecDepth 1000000 in
set_option maxHeartbeats 1000000 in
/-- Another ASCII rune is not. -/
theorem ir_ascii (r : Nat) (h : ¬ E r) (h1 : r < 128) (w : World) :
    Calls Try.prog 25 #[.string ⟨#[101, 69]⟩, .int .i32 r] w fun e w' => e = .returned (.int .i64 (-1)) ∧ w' = w := by
  have H : Hid (¬ E r) := h
  clear h
  have hf : Hid (firstIdx ⟨#[101, 69]⟩ r.toUInt8 = -1) := first_no _ (by
    have : r.toUInt8.toNat = r := by simp; omega
    rw [this]; exact H.out)
  go_enter Try.func25, Try.ntmps25
  go_wp2_with (go_at_call 30; refine (ib30 _ _ _).mono ?_; rintro e w' ⟨rfl, rfl⟩)
  go_ret
  exact ⟨by rw [← hf.out]; simp, rfl⟩

end Go.Proofs.Qxb6601839a
