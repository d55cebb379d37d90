/-
  WALKS: strings.IndexRune at "eE" and a rune beyond ASCII.
-/
import Derived.Test.Qxb6601839aWalk4
namespace Go.Proofs.Qxb6601839a
open Go.RowKit Plain

set_option maxRecDepth 1000000 in
set_option maxHeartbeats 1000000 in
/-- U+FFFD: "eE" is ranged over. -/
theorem ir_err (w : World) :
    Calls Try.prog 25 #[.string ⟨#[101, 69]⟩, .int .i32 65533] w fun e w' => e = .returned (.int .i64 (-1)) ∧ ∃ p, w' = w.iter ⟨#[101, 69]⟩ p := by
  have n0 := fun ty => run_next_ascii (P := Try.prog) w ⟨#[101, 69]⟩ 0 ty (by decide) (by decide)
  have n1 := fun ty => run_next_ascii (P := Try.prog) w ⟨#[101, 69]⟩ 1 ty (by decide) (by decide)
  have n2 := fun ty => run_next_end (P := Try.prog) w ⟨#[101, 69]⟩ 2 ty (by decide)
  go_enter Try.func25, Try.ntmps25
  go_wp2
  refine wp_loop_rounds 3 ?_
  rw [rounds_succ]
  go_wp2
  rw [rounds_succ]
  go_wp2
  rw [rounds_succ]
  go_wp2
  go_ret
  exact ⟨rfl, _, rfl⟩

set_option maxRecDepth 1000000 in
set_option maxHeartbeats 1000000 in
theorem vr31 (r : Nat) (hv : Hid (Utf8.valid r = true)) (w : World) :
    Calls Try.prog 31 #[.int .i32 r] w fun e w' => e = .returned (.bool true) ∧ w' = w := by
  have hvr : ((0 : Int) ≤ r ∧ (r : Int) < 55296) ∨ ((57343 : Int) < r ∧ (r : Int) ≤ 1114111) := by
    have h := hv.out
    rw [validRune_eq] at h; exact of_decide_eq_true h
  clear hv
  rcases hvr with ⟨ha, hb⟩ | ⟨ha, hb⟩
  · go_enter Try.func31, Try.ntmps31
    go_wp2
    go_ret
    exact ⟨rfl, rfl⟩
  · go_enter Try.func31, Try.ntmps31
    go_wp2
    go_ret
    exact ⟨rfl, rfl⟩

end Go.Proofs.Qxb6601839a
