/-
  WALK: compileGlob's closure 'one': a step is appended.
-/
import Derived.Test.Qxb6602360aFold
namespace Go.Proofs.Qxb6602360a
open Go.RowKit Plain

structure Step where
  set : S4
  loop : Bool
  fork : Nat

def Step.cells (s : Step) : List Value := [.int .u64 s.set.a, .int .u64 s.set.b, .int .u64 s.set.c, .int .u64 s.set.d, .bool s.loop, .int .i64 s.fork]
def cellsOf (l : List Step) : List Value := l.flatMap Step.cells

theorem Try.info55 : (Try.prog.info? 55).map (fun i => (i.zero, i.size, i.bytes)) = some (some (.agg #[.int .u64 0, .int .u64 0, .int .u64 0, .int .u64 0, .bool false, .int .i64 0]), 6, 48) := by kernel_rfl

/-- The variable at block sb holds the slice v, which owns the steps l. -/
structure Owns (w : World) (base sb : Nat) (v : Value) (l : List Step) : Prop where
  var : w.heap[sb]? = some (.cells #[v] 51 (0, 0))
  row : w.ownsRow base 55 6 v l.length (cellsOf l)
  lt : sb < base
  base_le : base ≤ w.heap.size

/-- Behind a step's append: new blocks; the variable and the row may have turned; nothing else. -/
structure Grew (base sb : Nat) (w w' : World) : Prop where
  os : w'.os = w.os
  tape : w'.tape = w.tape
  output : w'.output = w.output
  size : w.heap.size ≤ w'.heap.size
  block : ∀ k, k < base → k ≠ sb → w'.heap[k]? = w.heap[k]?

theorem ownBlock_ge {w : World} {base : Nat} {e : TypeId} {size : Nat} {v : Value} {n : Nat} {xs : List Value} (h : w.ownsRow base e size v n xs) {k : Nat} (hk : k < base) : some k ≠ v.ownBlock := by
  intro c
  have := (h.lt k c.symm).1
  omega
theorem ownsRow_form {w : World} {base : Nat} {e : TypeId} {size : Nat} {v : Value} {n : Nat} {xs : List Value} (h : w.ownsRow base e size v n xs) : ∃ ao m c, v = .slice ao m c := by
  rcases h.2 with ⟨h, _⟩ | ⟨g, cap, cur, h, _⟩
  · exact ⟨_, _, _, h⟩
  · exact ⟨_, _, _, h⟩
theorem heap_alloc_old (w : World) (o : Obj) (k : Nat) (hk : k < w.heap.size) : (w.alloc o).heap[k]? = w.heap[k]? := by
  show (w.heap.push o)[k]? = _
  rw [Array.getElem?_push, if_neg (by omega)]

/-- W is w with new blocks alone. -/
structure Made (w W : World) : Prop where
  os : W.os = w.os
  tape : W.tape = w.tape
  output : W.output = w.output
  size : w.heap.size ≤ W.heap.size
  block : ∀ k, k < w.heap.size → W.heap[k]? = w.heap[k]?
theorem Made.refl (w : World) : Made w w := ⟨rfl, rfl, rfl, Nat.le_refl _, fun _ _ => rfl⟩
theorem Made.alloc {w W : World} (h : Made w W) (o : Obj) : Made w (W.alloc o) :=
  ⟨h.os, h.tape, h.output, by have := h.size; simp; omega, fun k hk => by rw [heap_alloc_old _ _ _ (by have := h.size; omega)]; exact h.block k hk⟩

/-- The variable is written behind an append that went from W. -/
theorem owns_append {w W w1 : World} {base sb : Nat} {v v' : Value} {l : List Step} {st : List Step} (h : Owns w base sb v l) (hg : W.grownBy w1 v.ownBlock) (hW : Made w W)
    (hrow : w1.ownsRow base 55 6 v' (l ++ st).length (cellsOf (l ++ st))) :
    Owns (w1.setCell ⟨sb, 0, none⟩ v') base sb v' (l ++ st) ∧ Grew base sb w (w1.setCell ⟨sb, 0, none⟩ v') := by
  have hlt : sb < w.heap.size := lt_of_block h.var
  have hz : (w1.setCell ⟨sb, 0, none⟩ v').heap.size = w1.heap.size := by simp [World.setCell]
  have hb : w1.heap[sb]? = some (.cells #[v] 51 (0, 0)) := by
    rw [hg.block sb (by have := hW.size; omega) (ownBlock_ge h.row h.lt), hW.block sb hlt]; exact h.var
  refine ⟨⟨one_setCell hb, ?_, h.lt, by rw [hz]; have := h.base_le; have := hg.size; have := hW.size; omega⟩, ⟨hg.os.trans hW.os, hg.tape.trans hW.tape, hg.output.trans hW.output, by rw [hz]; have := hg.size; have := hW.size; omega, fun k hk hn => ?_⟩⟩
  · exact ownsRow_setCell_other hrow (fun c => (ownBlock_ge hrow h.lt) c.symm) _
  · rw [Below.heap_setCell _ _ _ _ hn, hg.block k (by have := h.base_le; have := hW.size; omega) (ownBlock_ge h.row hk), hW.block k (by have := h.base_le; omega)]

set_option maxRecDepth 1000000 in
set_option maxHeartbeats 2000000 in
theorem one_any (t : S4) (base sb : Nat) (v : Value) (l : List Step) (hl : l.length ≤ 70000) (w : World) (h : Owns w base sb v l) :
    Calls Try.prog 58 #[.agg (cells4 t), .pointer (some ⟨sb, 0, none⟩)] w fun e w' => e = .returned (.tuple #[]) ∧ (∃ v', Owns w' base sb v' (l ++ [⟨t, false, 0⟩])) ∧ Grew base sb w w' := by
  have H : Hid (Owns w base sb v l) := h
  clear h
  have hlt : sb < w.heap.size := lt_of_block H.out.var
  have hlt2 : sb < w.heap.size + 1 := by omega
  have hv : ∀ o, (w.alloc o).cell? ⟨sb, 0, none⟩ = some v := fun o => by rw [World.cell?_alloc_past _ _ _ hlt]; exact cell_of_one H.out.var
  obtain ⟨i0, hi, hz0, hz1, hz2⟩ := info_parts Try.info55
  unfold cells4
  go_enter Try.func58, Try.ntmps58
  go_wp2_with (at_builtin; refine wpList_append_own _ rfl (.tmp 3) (.tmp 6) 51 rfl base 55 i0 _ 6 48 Try.underlying51 hi hz0 hz1 hz2 rfl (by decide) v l.length (cellsOf l) rfl ((H.out.row.alloc _).alloc _) ⟨w.heap.size + 1, 0, none⟩ 1 1 (Step.cells ⟨t, false, 0⟩) rfl rfl ?c1 ?c2 ?c3 ?c4 ?c5 ?_)
  case c1 =>
    intro j u hj
    match j, hj with
    | 0, hj => simp [Step.cells] at hj; subst hj; simp [Addr.add]
    | 1, hj => simp [Step.cells] at hj; subst hj; simp [Addr.add]
    | 2, hj => simp [Step.cells] at hj; subst hj; simp [Addr.add]
    | 3, hj => simp [Step.cells] at hj; subst hj; simp [Addr.add]
    | 4, hj => simp [Step.cells] at hj; subst hj; simp [Addr.add]
    | 5, hj => simp [Step.cells] at hj; subst hj; simp [Addr.add]
    | k + 6, hj => simp [Step.cells] at hj
  case c2 => intro u hu; simp [Step.cells] at hu; rcases hu with rfl | rfl | rfl | rfl | rfl | rfl <;> rfl
  case c3 => unfold maxLen; omega
  case c4 => omega
  case c5 => have := H.out.base_le; simp; omega
  · intro v' w1 hown' hgrow _
    obtain ⟨ao, m, c, hv'⟩ := ownsRow_form hown'
    rw [hv'] at hown'
    rw [hv']
    clear hv'
    have hrow : w1.ownsRow base 55 6 (.slice ao m c) (l ++ [(⟨t, false, 0⟩ : Step)]).length (cellsOf (l ++ [(⟨t, false, 0⟩ : Step)])) := by
      have e : cellsOf (l ++ [(⟨t, false, 0⟩ : Step)]) = cellsOf l ++ Step.cells ⟨t, false, 0⟩ := by simp [cellsOf]
      rw [e, List.length_append]; exact hown'
    have R := owns_append H.out hgrow (((Made.refl w).alloc _).alloc _) hrow
    have hb : w1.heap[sb]? = some (.cells #[v] 51 (0, 0)) := by
      rw [hgrow.block sb (by simp; omega) (ownBlock_ge H.out.row H.out.lt), heap_alloc_old _ _ _ (by simp; omega), heap_alloc_old _ _ _ hlt]; exact H.out.var
    have hc1 := cell_of_one hb
    have hf1 := free_of_one hb
    clear hown' hgrow hrow hb hv
    have RR : Hid (Owns (w1.setCell ⟨sb, 0, none⟩ (.slice ao m c)) base sb (.slice ao m c) (l ++ [⟨t, false, 0⟩]) ∧ Grew base sb w (w1.setCell ⟨sb, 0, none⟩ (.slice ao m c))) := R
    clear R
    go_wp2
    go_end0
    exact ⟨rfl, ⟨_, RR.out.1⟩, RR.out.2⟩

end Go.Proofs.Qxb6602360a
