/-
  THE COMPARE OF TWO ARRAYS OF FOUR WORDS.
-/
import Derived.Test.Qxb6602360aLaw1
import Derived.ChangeKeysEq
import Derived.Laws.StructEq
import Derived.OwnWalk
namespace Go.Proofs.Qxb6602360a
open Go.RowKit Plain
theorem Try.info22 : (Try.prog.info? 22).map (fun i => (i.zero, i.size, i.bytes)) = some (some (.int .u64 0), 1, 8) := by kernel_rfl
theorem Try.cells22 : Try.prog.cellsOf 22 = 1 := by kernel_rfl
theorem part22 (xs : Array Value) (i : Nat) (k : Int) (h : xs[i]? = some (.int .u64 k)) (w : World) : (part 22 xs i).run Try.prog w = .ok (.int .u64 k) w := by
  simp [part, go_sem, h]
theorem items22 (w : World) (xs ys : Array Value) (i : Nat) (is : List Nat) (a b : Int) (h : xs[i * 1]? = some (.int .u64 a)) (k : ys[i * 1]? = some (.int .u64 b)) :
    (Op.eqItems 9999 22 1 xs ys (i :: is)).run Try.prog w = if a = b then (Op.eqItems 9999 22 1 xs ys is).run Try.prog w else .ok false w := by
  simp only [Op.eqItems, Sem.run_bind]
  rw [part22 _ (i * 1) a h, Result.andThen_ok, part22 _ (i * 1) b k, Result.andThen_ok, run_equalIn_int (P := Try.prog) w 9998 22 _ _ _ _ Try.underlying22, Result.andThen_ok]
  by_cases e : a = b
  · simp [e]
  · simp [e]
theorem eq23 (w : World) (a b c d a' b' c' d' : Int) :
    (Op.equalIn 10000 23 (.agg #[.int .u64 a, .int .u64 b, .int .u64 c, .int .u64 d]) (.agg #[.int .u64 a', .int .u64 b', .int .u64 c', .int .u64 d'])).run Try.prog w = .ok (decide (a = a' ∧ b = b' ∧ c = c' ∧ d = d')) w := by
  obtain ⟨i0, hi0, hz0, hz1, hz2⟩ := info_parts Try.info22
  rw [run_equalIn_array w 9999 _ _ Try.underlying23 hi0, Try.cells22]
  have hr : List.range 4 = [0, 1, 2, 3] := rfl
  rw [hr, items22 w _ _ 0 _ a a' rfl rfl, items22 w _ _ 1 _ b b' rfl rfl, items22 w _ _ 2 _ c c' rfl rfl, items22 w _ _ 3 _ d d' rfl rfl]
  by_cases e1 : a = a'
  · by_cases e2 : b = b'
    · by_cases e3 : c = c'
      · by_cases e4 : d = d'
        · simp [e1, e2, e3, e4, Op.eqItems]
        · simp [e4]
      · simp [e3]
    · simp [e2]
  · simp [e1]
theorem eq23_same (w : World) (s : S4) :
    (Op.equalIn 10000 23 (.agg #[.int .u64 s.a, .int .u64 s.b, .int .u64 s.c, .int .u64 s.d]) (.agg #[.int .u64 s.a, .int .u64 s.b, .int .u64 s.c, .int .u64 s.d])).run Try.prog w = .ok true w := by
  rw [eq23]; simp
theorem eq23_ne (w : World) (s t : S4) (h : s ≠ t) :
    (Op.equalIn 10000 23 (.agg #[.int .u64 s.a, .int .u64 s.b, .int .u64 s.c, .int .u64 s.d]) (.agg #[.int .u64 t.a, .int .u64 t.b, .int .u64 t.c, .int .u64 t.d])).run Try.prog w = .ok false w := by
  rw [eq23, decide_eq_false]
  rintro ⟨h1, h2, h3, h4⟩
  apply h
  cases s; cases t
  simp at h1 h2 h3 h4 ⊢
  omega
end Go.Proofs.Qxb6602360a
