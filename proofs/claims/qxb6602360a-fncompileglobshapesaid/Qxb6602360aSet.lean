/-
  WALKS: the methods of byteSet over a block of four words.
-/
import Derived.Test.Qxb6602360aProg
import Derived.Test.Qxb6602360aPlain
import Derived.WalkKit
import Derived.WalkSpells
import Derived.WalkLawsBesides
import Derived.RegionTactic
import Derived.ChangeAlike
import Derived.Laws.BitsAllLaws
import Derived.OneCell
namespace Go.Proofs.Qxb6602360a
open Go.RowKit Plain

def cells4 (s : S4) : Array Value := #[.int .u64 s.a, .int .u64 s.b, .int .u64 s.c, .int .u64 s.d]

/-- Block blk is a variable of four words of type t: the set s. -/
def HSet (w : World) (blk : Nat) (t : TypeId) (s : S4) : Prop := w.heap[blk]? = some (.cells (cells4 s) t (0, 0))

theorem HSet.cell {w : World} {blk : Nat} {t : TypeId} {s : S4} (h : HSet w blk t s) (i : Nat) (hi : i < 4) : w.cell? ⟨blk, i, none⟩ = some (.int .u64 (s.word i)) := by
  unfold HSet at h
  simp only [World.cell?, h]
  match i, hi with
  | 0, _ => rfl
  | 1, _ => rfl
  | 2, _ => rfl
  | 3, _ => rfl
theorem HSet.free {w : World} {blk : Nat} {t : TypeId} {s : S4} (h : HSet w blk t s) (i : Nat) : w.frozen? ⟨blk, i, none⟩ = false := by
  unfold HSet at h
  simp [World.frozen?, h]
theorem HSet.lt {w : World} {blk : Nat} {t : TypeId} {s : S4} (h : HSet w blk t s) : blk < w.heap.size := lt_of_block h

theorem cells4_put (s : S4) (i x : Nat) (hi : i < 4) : (cells4 s).setIfInBounds i (.int .u64 x) = cells4 (s.put i x) := by
  match i, hi with
  | 0, _ => rfl
  | 1, _ => rfl
  | 2, _ => rfl
  | 3, _ => rfl

theorem HSet.store {w : World} {blk : Nat} {t : TypeId} {s : S4} (h : HSet w blk t s) (i x : Nat) (hi : i < 4) : HSet (w.setCell ⟨blk, i, none⟩ (.int .u64 x)) blk t (s.put i x) := by
  have hlt := h.lt
  unfold HSet at h ⊢
  have h' : w.heap[blk] = .cells (cells4 s) t (0, 0) := by simpa [Array.getElem?_eq_getElem hlt] using h
  show (w.heap.modify blk _)[blk]? = _
  rw [Array.getElem?_eq_getElem (by simpa using hlt), Array.getElem_modify_self, h', ← cells4_put s i x hi]
  rfl

/-- Writes to block blk alone; nothing made. -/
structure Upd (blk : Nat) (w w' : World) : Prop where
  grown : w.grownBy w' (some blk)
  size : w'.heap.size = w.heap.size
theorem Upd.refl (blk : Nat) (w : World) : Upd blk w w := ⟨⟨rfl, rfl, rfl, Nat.le_refl _, fun _ _ _ => rfl⟩, rfl⟩
theorem Upd.trans {blk : Nat} {a b c : World} (h : Upd blk a b) (k : Upd blk b c) : Upd blk a c :=
  ⟨⟨k.grown.os.trans h.grown.os, k.grown.tape.trans h.grown.tape, k.grown.output.trans h.grown.output, Nat.le_trans h.grown.size k.grown.size,
    fun i hi hn => (k.grown.block i (by rw [h.size]; exact hi) hn).trans (h.grown.block i hi hn)⟩, k.size.trans h.size⟩
theorem Upd.store (blk : Nat) (w : World) (i : Nat) (v : Value) : Upd blk w (w.setCell ⟨blk, i, none⟩ v).drew := by
  refine ⟨⟨rfl, rfl, rfl, ?_, fun k hk hn => ?_⟩, ?_⟩
  · show w.heap.size ≤ (w.heap.modify blk _).size
    simp
  · show (w.setCell ⟨blk, i, none⟩ v).heap[k]? = _
    exact Below.heap_setCell _ _ _ _ (fun e => hn (by rw [e]))
  · show (w.heap.modify blk _).size = _
    simp

theorem wrap_pow (k : Nat) (h : k < 64) : IntKind.u64.wrap (2 ^ k) = ((2 ^ k : Nat) : Int) := by
  rw [IntKind.wrap_u64]
  have := pow_lt k h
  have e : ((2 : Int) ^ k) = ((2 ^ k : Nat) : Int) := by push_cast; rfl
  rw [e]
  generalize 2 ^ k = n at this
  omega
theorem or_pow (x k : Nat) (hx : x < 18446744073709551616) (h : k < 64) : bits .or .u64 (x : Int) (IntKind.u64.wrap (2 ^ k)) = ((x ||| 2 ^ k : Nat) : Int) := by
  rw [wrap_pow k h]; exact u64_or_nat x _ hx (pow_lt k h)
theorem andNot_pow (x k : Nat) (hx : x < 18446744073709551616) (h : k < 64) : bits .andNot .u64 (x : Int) (IntKind.u64.wrap (2 ^ k)) = ((x &&& (18446744073709551615 - 2 ^ k) : Nat) : Int) := by
  rw [wrap_pow k h]; exact u64_andNot_nat x _ hx (pow_lt k h)
theorem and_pow (x k : Nat) (hx : x < 18446744073709551616) (h : k < 64) : bits .and .u64 (x : Int) (IntKind.u64.wrap (2 ^ k)) = ((x &&& 2 ^ k : Nat) : Int) := by
  rw [wrap_pow k h]; exact u64_and_nat x _ hx (pow_lt k h)
theorem and_pow_ne (x k : Nat) : (((x &&& 2 ^ k : Nat) : Int) != 0) = x.testBit k := by
  cases h : x.testBit k with
  | false =>
    have e : x &&& 2 ^ k = 0 := by
      refine Nat.eq_of_testBit_eq fun i => ?_
      rw [Nat.testBit_and, Nat.testBit_two_pow, Nat.zero_testBit]
      by_cases hi : k = i
      · subst hi; rw [h, Bool.false_and]
      · rw [decide_eq_false hi, Bool.and_false]
    rw [e]; rfl
  | true =>
    have e : (x &&& 2 ^ k).testBit k = true := by
      rw [Nat.testBit_and, h, Nat.testBit_two_pow]; simp
    rw [bne_iff_ne]
    intro c
    have c' : x &&& 2 ^ k = 0 := by omega
    rw [c', Nat.zero_testBit] at e
    cases e

theorem ret_bool {a b : Bool} (h : a = b) : Ending.returned (.bool a) = .returned (.bool b) := by rw [h]

set_option maxRecDepth 1000000 in
set_option maxHeartbeats 1000000 in
theorem add_any (blk : Nat) (t : TypeId) (s : S4) (hs : s.ok) (x : Nat) (hx : x < 256) (w : World) (h : HSet w blk t s) :
    Calls Try.prog 51 #[.pointer (some ⟨blk, 0, none⟩), .int .u8 x] w fun e w' => e = .returned (.tuple #[]) ∧ HSet w' blk t (s.add x) ∧ Upd blk w w' := by
  obtain ⟨q, r, hq4, hr64, hqr⟩ : ∃ q r, q < 4 ∧ r < 64 ∧ x = 64 * q + r := ⟨x / 64, x % 64, by omega, by omega, by omega⟩
  have e1 : x / 64 = q := by omega
  have e2 : x % 64 = r := by omega
  have fin : Hid (∀ w', w' = (w.setCell ⟨blk, q, none⟩ (.int .u64 (bits .or .u64 (s.word q : Int) (IntKind.u64.wrap (2 ^ r))))).drew → HSet w' blk t (s.add x) ∧ Upd blk w w') := by
    intro w' hw
    rw [hw]
    refine ⟨?_, Upd.store blk w q _⟩
    rw [or_pow _ r (S4.ok_word hs q) hr64]
    show HSet (w.setCell _ _) blk t _
    unfold S4.add
    rw [e1, e2]
    exact h.store q _ hq4
  have hc := h.cell q hq4
  have hf := h.free q
  have HX : Hid (x = 64 * q + r) := hqr
  have hq : (x : Int) / 64 = q := by omega
  have hr : (x : Int) % 64 = r := by omega
  have hr2 : ((r : Int)).toNat = r := by omega
  obtain ⟨sw, hsw⟩ : ∃ sw, s.word q = sw := ⟨_, rfl⟩
  rw [hsw] at hc fin
  clear h e1 e2 hqr hsw hs
  rcases (show q = 0 ∨ q = 1 ∨ q = 2 ∨ q = 3 by omega) with rfl | rfl | rfl | rfl
  all_goals
    clear hq4
    go_enter Try.func51, Try.ntmps51
    go_region
    go_end0
    refine ⟨rfl, fin.out _ ?_⟩
    rfl

set_option maxRecDepth 1000000 in
set_option maxHeartbeats 1000000 in
theorem remove_any (blk : Nat) (t : TypeId) (s : S4) (hs : s.ok) (x : Nat) (hx : x < 256) (w : World) (h : HSet w blk t s) :
    Calls Try.prog 54 #[.pointer (some ⟨blk, 0, none⟩), .int .u8 x] w fun e w' => e = .returned (.tuple #[]) ∧ HSet w' blk t (s.remove x) ∧ Upd blk w w' := by
  obtain ⟨q, r, hq4, hr64, hqr⟩ : ∃ q r, q < 4 ∧ r < 64 ∧ x = 64 * q + r := ⟨x / 64, x % 64, by omega, by omega, by omega⟩
  have e1 : x / 64 = q := by omega
  have e2 : x % 64 = r := by omega
  have fin : Hid (∀ w', w' = (w.setCell ⟨blk, q, none⟩ (.int .u64 (bits .andNot .u64 (s.word q : Int) (IntKind.u64.wrap (2 ^ r))))).drew → HSet w' blk t (s.remove x) ∧ Upd blk w w') := by
    intro w' hw
    rw [hw]
    refine ⟨?_, Upd.store blk w q _⟩
    rw [andNot_pow _ r (S4.ok_word hs q) hr64]
    show HSet (w.setCell _ _) blk t _
    unfold S4.remove
    rw [e1, e2]
    exact h.store q _ hq4
  have hc := h.cell q hq4
  have hf := h.free q
  have hq : (x : Int) / 64 = q := by omega
  have hr : (x : Int) % 64 = r := by omega
  have hr2 : ((r : Int)).toNat = r := by omega
  obtain ⟨sw, hsw⟩ : ∃ sw, s.word q = sw := ⟨_, rfl⟩
  rw [hsw] at hc fin
  clear h e1 e2 hqr hsw hs
  rcases (show q = 0 ∨ q = 1 ∨ q = 2 ∨ q = 3 by omega) with rfl | rfl | rfl | rfl
  all_goals
    clear hq4
    go_enter Try.func54, Try.ntmps54
    go_region
    go_end0
    refine ⟨rfl, fin.out _ ?_⟩
    rfl

set_option maxRecDepth 1000000 in
set_option maxHeartbeats 1000000 in
theorem has_any (blk : Nat) (t : TypeId) (s : S4) (hs : s.ok) (x : Nat) (hx : x < 256) (w : World) (h : HSet w blk t s) :
    Calls Try.prog 60 #[.pointer (some ⟨blk, 0, none⟩), .int .u8 x] w fun e w' => e = .returned (.bool (s.has x)) ∧ w' = w := by
  obtain ⟨q, r, hq4, hr64, hqr⟩ : ∃ q r, q < 4 ∧ r < 64 ∧ x = 64 * q + r := ⟨x / 64, x % 64, by omega, by omega, by omega⟩
  have e1 : x / 64 = q := by omega
  have e2 : x % 64 = r := by omega
  have fin : Hid ((bits .and .u64 (s.word q : Int) (IntKind.u64.wrap (2 ^ r)) != 0) = s.has x) := by
    have : (bits .and .u64 (s.word q : Int) (IntKind.u64.wrap (2 ^ r)) != 0) = s.has x := by
      rw [and_pow _ r (S4.ok_word hs q) hr64, and_pow_ne]
      unfold S4.has
      rw [e1, e2]
    exact this
  have hc := h.cell q hq4
  have hq : (x : Int) / 64 = q := by omega
  have hr : (x : Int) % 64 = r := by omega
  have hr2 : ((r : Int)).toNat = r := by omega
  obtain ⟨sw, hsw⟩ : ∃ sw, s.word q = sw := ⟨_, rfl⟩
  rw [hsw] at hc fin
  clear h e1 e2 hqr hsw hs
  rcases (show q = 0 ∨ q = 1 ∨ q = 2 ∨ q = 3 by omega) with rfl | rfl | rfl | rfl
  all_goals
    clear hq4
    go_enter Try.func60, Try.ntmps60
    go_wp2
    go_ret
    exact ⟨ret_bool fin.out, rfl⟩

end Go.Proofs.Qxb6602360a
