/-
  WALK: compileGlob's closure 'literal'.
-/
import Derived.Test.Qxb6602360aOne
namespace Go.Proofs.Qxb6602360a
open Go.RowKit Plain

theorem Made.grown {w W : World} (h : Made w W) : w.grownBy W none := ⟨h.os, h.tape, h.output, h.size, fun k hk _ => h.block k hk⟩
theorem Made.grew {w W : World} (h : Made w W) {base sb : Nat} (hb : base ≤ w.heap.size) : Grew base sb w W := ⟨h.os, h.tape, h.output, h.size, fun k hk _ => h.block k (by omega)⟩
theorem Made.trans {a b c : World} (h : Made a b) (k : Made b c) : Made a c :=
  ⟨k.os.trans h.os, k.tape.trans h.tape, k.output.trans h.output, Nat.le_trans h.size k.size, fun i hi => (k.block i (by have := h.size; omega)).trans (h.block i hi)⟩
/-- A variable made by the call is written. -/
theorem Made.upd {w W W' : World} (h : Made w W) {b : Nat} (hb : w.heap.size ≤ b) (u : Upd b W W') : Made w W' :=
  ⟨u.grown.os.trans h.os, u.grown.tape.trans h.tape, u.grown.output.trans h.output, Nat.le_trans h.size u.grown.size, fun k hk => (u.grown.block k (by have := h.size; omega) (by simp; omega)).trans (h.block k hk)⟩
theorem Made.drawn {w W : World} (h : Made w W) (n : Nat) : Made w (W.drewN n) := ⟨h.os, h.tape, h.output, h.size, h.block⟩
theorem Grew.trans {base sb : Nat} {a b c : World} (h : Grew base sb a b) (k : Grew base sb b c) : Grew base sb a c :=
  ⟨k.os.trans h.os, k.tape.trans h.tape, k.output.trans h.output, Nat.le_trans h.size k.size, fun i hi hn => (k.block i hi hn).trans (h.block i hi hn)⟩
theorem Owns.made {w W : World} {base sb : Nat} {v : Value} {l : List Step} (h : Owns w base sb v l) (m : Made w W) : Owns W base sb v l :=
  ⟨by rw [m.block sb (lt_of_block h.var)]; exact h.var, h.row.kept m.grown (by cases hv : v.ownBlock <;> simp), h.lt, by have := h.base_le; have := m.size; omega⟩

theorem hset_new (w : World) (t : TypeId) (s : S4) : HSet (w.alloc (.cells (cells4 s) t)) w.heap.size t s := heap_alloc_new w _

theorem one_any' (t : S4) (base sb : Nat) (v : Value) (l : List Step) (hl : l.length ≤ 70000) (w : World) (h : Owns w base sb v l) :
    Calls Try.prog 58 #[.agg #[.int .u64 t.a, .int .u64 t.b, .int .u64 t.c, .int .u64 t.d], .pointer (some ⟨sb, 0, none⟩)] w fun e w' => e = .returned (.tuple #[]) ∧ (∃ v', Owns w' base sb v' (l ++ [⟨t, false, 0⟩])) ∧ Grew base sb w w' :=
  one_any t base sb v l hl w h
theorem HSet.words {w : World} {blk : Nat} {ty : TypeId} {s : S4} (h : HSet w blk ty s) : w.cell? ⟨blk, 0, none⟩ = some (.int .u64 s.a) ∧ w.cell? ⟨blk, 1, none⟩ = some (.int .u64 s.b) ∧ w.cell? ⟨blk, 2, none⟩ = some (.int .u64 s.c) ∧ w.cell? ⟨blk, 3, none⟩ = some (.int .u64 s.d) :=
  ⟨h.cell 0 (by omega), h.cell 1 (by omega), h.cell 2 (by omega), h.cell 3 (by omega)⟩
theorem lit_false (x : Nat) : lit false x = S4.zero.add x := rfl

/-- 'one' as it lies in its variable. -/
def oneVal (sb : Nat) : Value := .func (.func 58) #[] #[.pointer (some ⟨sb, 0, none⟩)]

set_option maxRecDepth 1000000 in
set_option maxHeartbeats 2000000 in
theorem lit_any (x : Nat) (hx : x < 256) (fc : Bool) (fb ob base sb : Nat) (v : Value) (l : List Step) (hl : l.length ≤ 70000) (w : World) (h : Owns w base sb v l)
    (hf : w.heap[fb]? = some (.cells #[.bool fc] 4 (0, 0))) (ho : w.heap[ob]? = some (.cells #[oneVal sb] 63 (0, 0))) :
    Calls Try.prog 59 #[.int .u8 x, .pointer (some ⟨fb, 0, none⟩), .pointer (some ⟨ob, 0, none⟩)] w fun e w' => e = .returned (.tuple #[]) ∧ (∃ v', Owns w' base sb v' (l ++ [⟨lit fc x, false, 0⟩])) ∧ Grew base sb w w' := by
  have H : Hid (Owns w base sb v l) := h
  have HF : Hid (w.heap[fb]? = some (.cells #[.bool fc] 4 (0, 0))) := hf
  have HO : Hid (w.heap[ob]? = some (.cells #[oneVal sb] 63 (0, 0))) := ho
  have hfl : fb < w.heap.size := lt_of_block hf
  have hol : ob < w.heap.size := lt_of_block ho
  clear h hf ho
  go_enter Try.func59, Try.ntmps59
  go_wp2_with fail
  obtain ⟨w1, hw1⟩ : ∃ w1, w.alloc (.cells #[.int .u64 0, .int .u64 0, .int .u64 0, .int .u64 0] 45) = w1 := ⟨_, rfl⟩
  have M1 : Hid (Made w w1 ∧ HSet w1 w.heap.size 45 S4.zero) := by
    rw [← hw1]
    exact ⟨(Made.refl w).alloc _, hset_new w 45 S4.zero⟩
  rw [hw1]
  clear hw1
  refine (add_any w.heap.size 45 S4.zero S4.ok_zero x hx _ M1.out.2).mono ?_
  rintro e w2 ⟨rfl, h2, u2⟩
  have M2 : Hid (Made w w2 ∧ HSet w2 w.heap.size 45 (S4.zero.add x)) := ⟨M1.out.1.upd (Nat.le_refl _) u2, h2⟩
  clear h2 u2 M1
  have hf2 : w2.cell? ⟨fb, 0, none⟩ = some (.bool fc) := cell_of_one (by rw [M2.out.1.block fb hfl]; exact HF.out)
  cases fc with
  | false =>
    have ho2 : w2.cell? ⟨ob, 0, none⟩ = some (oneVal sb) := cell_of_one (by rw [M2.out.1.block ob hol]; exact HO.out)
    unfold oneVal at ho2
    obtain ⟨t2, ht2⟩ : ∃ t2, S4.zero.add x = t2 := ⟨_, rfl⟩
    rw [ht2] at M2
    have HT : Hid (lit false x = t2) := ht2
    clear ht2
    obtain ⟨c0, c1, c2, c3⟩ := M2.out.2.words
    go_wp2_with fail
    refine (one_any' t2 base sb v l hl _ (H.out.made M2.out.1)).mono ?_
    rintro e w3 ⟨rfl, h3, g3⟩
    have H3 : Hid ((∃ v', Owns w3 base sb v' (l ++ [⟨t2, false, 0⟩])) ∧ Grew base sb w2 w3) := ⟨h3, g3⟩
    clear h3 g3
    go_wp2
    go_end0
    exact ⟨rfl, by rw [HT.out]; exact H3.out.1, (M2.out.1.grew H.out.base_le).trans H3.out.2⟩
  | true =>
    go_wp2_with fail
    refine (fold_any w.heap.size 45 (S4.zero.add x) (S4.ok_add S4.ok_zero x hx) _ M2.out.2).mono ?_
    rintro e w3 ⟨rfl, t3, hf3, h3, u3⟩
    have M3 : Hid (Made w w3 ∧ HSet w3 w.heap.size 45 t3) := ⟨M2.out.1.upd (Nat.le_refl _) u3, h3⟩
    have HT : Hid (t3 = lit true x) := fold_lit hx hf3
    clear h3 u3 M2 hf2 hf3
    have ho3 : w3.cell? ⟨ob, 0, none⟩ = some (oneVal sb) := cell_of_one (by rw [M3.out.1.block ob hol]; exact HO.out)
    unfold oneVal at ho3
    obtain ⟨c0, c1, c2, c3⟩ := M3.out.2.words
    go_wp2_with fail
    refine (one_any' t3 base sb v l hl _ (H.out.made M3.out.1)).mono ?_
    rintro e w4 ⟨rfl, h4, g4⟩
    have H4 : Hid ((∃ v', Owns w4 base sb v' (l ++ [⟨t3, false, 0⟩])) ∧ Grew base sb w3 w4) := ⟨h4, g4⟩
    clear h4 g4
    go_wp2
    go_end0
    exact ⟨rfl, by rw [← HT.out]; exact H4.out.1, (M3.out.1.grew H.out.base_le).trans H4.out.2⟩

end Go.Proofs.Qxb6602360a
