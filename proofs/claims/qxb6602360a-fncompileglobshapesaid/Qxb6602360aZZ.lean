/-
  WALK: ZZcompileGlob: the steps, copied into a slice of ZZStep.
-/
import Derived.Test.Qxb6602360aComp
import Derived.Test.Qxb6602360aLaw1
import Derived.Laws.OwnMore
import Derived.BigRegion
namespace Go.Proofs.Qxb6602360a
open Go.RowKit Plain

theorem cellsOf_len (L : List Step) : (cellsOf L).length = L.length * 6 := by
  induction L with
  | nil => rfl
  | cons a l ih =>
    have : cellsOf (a :: l) = a.cells ++ cellsOf l := by simp [cellsOf]
    rw [this, List.length_append, ih]; simp [Step.cells]; omega
theorem cellsOf_at : ∀ (L : List Step) (k : Nat) (st : Step), L[k]? = some st → ∀ j, j < 6 → (cellsOf L)[k * 6 + j]? = st.cells[j]?
  | [], _, _, h, _, _ => by simp at h
  | a :: l, 0, st, h, j, hj => by
    simp at h; subst h
    have : cellsOf (a :: l) = a.cells ++ cellsOf l := by simp [cellsOf]
    rw [this, Nat.zero_mul, Nat.zero_add, List.getElem?_append_left (by simp [Step.cells]; omega)]
  | a :: l, k + 1, st, h, j, hj => by
    have e : cellsOf (a :: l) = a.cells ++ cellsOf l := by simp [cellsOf]
    have h6 : a.cells.length = 6 := rfl
    rw [e, List.getElem?_append_right (by omega), h6, show (k + 1) * 6 + j - 6 = k * 6 + j by omega]
    exact cellsOf_at l k st (by simpa using h) j hj

theorem Try.info44 : (Try.prog.info? 44).map (fun i => (i.zero, i.size, i.bytes)) = some (some (.agg #[.int .u64 0, .int .u64 0, .int .u64 0, .int .u64 0, .bool false, .int .i64 0]), 6, 48) := by kernel_rfl

/-- What ZZcompileGlob hands back. -/
def RetZZ (s : ByteArray) (fc : Bool) (base : Nat) (e : Ending) (w' : World) : Prop :=
  (∃ g c L, e = .returned (.tuple #[.slice (some ⟨g, 0, none⟩) L.length c, .bool true]) ∧ w'.ownsRow base 44 6 (.slice (some ⟨g, 0, none⟩) L.length c) L.length (cellsOf L) ∧ CI fc s s.size L) ∨
  (∃ ao c, e = .returned (.tuple #[.slice ao 0 c, .bool false]) ∧ ∃ k, k < s.size ∧ (bt s k = 91 ∨ bt s k = 92))

/-- The copy's memory behind k rounds. -/
structure ZW (w : World) (ob : Nat) (ao : Option Addr) (c : Nat) (L : List Step) (k : Nat) (wr : World) : Prop where
  out : ∃ ys, wr.ownsRow w.heap.size 44 6 (.slice (some ⟨ob, 0, none⟩) L.length L.length) L.length ys ∧ ys.take (k * 6) = (cellsOf L).take (k * 6)
  src : wr.ownsRow (w.heap.size + 5) 55 6 (.slice ao L.length c) L.length (cellsOf L)
  below : Below w.heap.size w wr

theorem ZW.cells {w wr : World} {ob c : Nat} {ao : Option Addr} {L : List Step} {k : Nat} (h : ZW w ob ao c L k wr) (hk : k < L.length) {st : Step} (hst : L[k]? = some st) :
    ∃ g, ao = some ⟨g, 0, none⟩ ∧ g ≠ ob ∧ (∀ j, j < 6 → wr.cell? ⟨g, k * 6 + j, none⟩ = st.cells[j]?) ∧ (∀ j, j < 6 → ∃ y, wr.cell? ⟨ob, k * 6 + j, none⟩ = some y) ∧ (∀ j, wr.frozen? ⟨ob, j, none⟩ = false) := by
  obtain ⟨ys, hy, _⟩ := h.out
  rcases h.src.2 with ⟨h1, h0⟩ | ⟨g, cap, cur, h1, _, hg, _⟩
  · omega
  · simp only [Value.slice.injEq] at h1
    obtain ⟨rfl, _, rfl⟩ := h1
    refine ⟨g, rfl, ?_, fun j hj => ?_, fun j hj => ?_, fun j => hy.frozenAt j⟩
    · intro e
      rcases hy.2 with ⟨h2, _⟩ | ⟨g2, cap2, cur2, h2, _, hg2, _⟩
      · simp at h2
      · simp only [Value.slice.injEq, Option.some.injEq, Addr.mk.injEq] at h2
        rw [← h2.1.1, ← e, hg] at hg2
        simp at hg2
    · rw [h.src.cellAt (k * 6 + j) (by omega), cellsOf_at L k st hst j hj]
    · have hl : k * 6 + j < ys.length := by rw [hy.1]; omega
      exact ⟨_, (hy.cellAt (k * 6 + j) (by omega)).trans (List.getElem?_eq_getElem hl)⟩

theorem take_set6 (ys zs : List Value) (k : Nat) (c0 c1 c2 c3 c4 c5 : Value) (hl : k * 6 + 6 ≤ ys.length) (ht : ys.take (k * 6) = zs.take (k * 6)) (hz : ∀ j, j < 6 → zs[k * 6 + j]? = [c0, c1, c2, c3, c4, c5][j]?) :
    ((((((ys.set (k * 6) c0).set (k * 6 + 1) c1).set (k * 6 + 2) c2).set (k * 6 + 3) c3).set (k * 6 + 4) c4).set (k * 6 + 5) c5).take ((k + 1) * 6) = zs.take ((k + 1) * 6) := by
  apply List.ext_getElem?
  intro i
  rw [List.getElem?_take, List.getElem?_take]
  by_cases hi : i < (k + 1) * 6
  · rw [if_pos hi, if_pos hi]
    by_cases h1 : i < k * 6
    · have := congrArg (fun l => l[i]?) ht
      simp only [List.getElem?_take, if_pos h1] at this
      rw [List.getElem?_set_ne (by omega), List.getElem?_set_ne (by omega), List.getElem?_set_ne (by omega), List.getElem?_set_ne (by omega), List.getElem?_set_ne (by omega), List.getElem?_set_ne (by omega)]
      exact this
    · obtain ⟨j, rfl⟩ : ∃ j, i = k * 6 + j := ⟨i - k * 6, by omega⟩
      have hj : j < 6 := by omega
      rw [hz j hj]
      match j, hj with
      | 0, _ =>
        rw [List.getElem?_set_ne (by omega), List.getElem?_set_ne (by omega), List.getElem?_set_ne (by omega), List.getElem?_set_ne (by omega), List.getElem?_set_ne (by omega), Nat.add_zero, List.getElem?_set_self (by omega)]; rfl
      | 1, _ =>
        rw [List.getElem?_set_ne (by omega), List.getElem?_set_ne (by omega), List.getElem?_set_ne (by omega), List.getElem?_set_ne (by omega), List.getElem?_set_self (by simp; omega)]; rfl
      | 2, _ =>
        rw [List.getElem?_set_ne (by omega), List.getElem?_set_ne (by omega), List.getElem?_set_ne (by omega), List.getElem?_set_self (by simp; omega)]; rfl
      | 3, _ =>
        rw [List.getElem?_set_ne (by omega), List.getElem?_set_ne (by omega), List.getElem?_set_self (by simp; omega)]; rfl
      | 4, _ =>
        rw [List.getElem?_set_ne (by omega), List.getElem?_set_self (by simp; omega)]; rfl
      | 5, _ =>
        rw [List.getElem?_set_self (by simp; omega)]; rfl
  · rw [if_neg hi, if_neg hi]

theorem ZW.store {w wr : World} {ob c g : Nat} {L : List Step} {k : Nat} (h : ZW w ob (some ⟨g, 0, none⟩) c L k wr) (hob : w.heap.size ≤ ob) (hne : g ≠ ob) (hk : k < L.length) {st : Step} (hst : L[k]? = some st) :
    ZW w ob (some ⟨g, 0, none⟩) c L (k + 1) ((((((wr.setCell ⟨ob, k * 6, none⟩ (.int .u64 st.set.a)).setCell ⟨ob, k * 6 + 1, none⟩ (.int .u64 st.set.b)).setCell ⟨ob, k * 6 + 2, none⟩ (.int .u64 st.set.c)).setCell ⟨ob, k * 6 + 3, none⟩ (.int .u64 st.set.d)).setCell ⟨ob, k * 6 + 4, none⟩ (.bool st.loop)).setCell ⟨ob, k * 6 + 5, none⟩ (.int .i64 st.fork)).drew := by
  obtain ⟨ys, hy, hyt⟩ := h.out
  refine ⟨⟨_, (((((((hy.stored (k * 6) _).1.stored (k * 6 + 1) _).1.stored (k * 6 + 2) _).1.stored (k * 6 + 3) _).1.stored (k * 6 + 4) _).1.stored (k * 6 + 5) _).1).drew, take_set6 ys (cellsOf L) k _ _ _ _ _ _ (by rw [hy.1]; omega) hyt (fun j hj => cellsOf_at L k st hst j hj)⟩, ?_, ?_⟩
  · have n : (Value.slice (some ⟨g, 0, none⟩) L.length c).ownBlock ≠ some ob := by simp [Value.ownBlock]; exact hne
    exact (ownsRow_setCell_other (ownsRow_setCell_other (ownsRow_setCell_other (ownsRow_setCell_other (ownsRow_setCell_other (ownsRow_setCell_other h.src (a := ⟨ob, k * 6, none⟩) n _) (a := ⟨ob, k * 6 + 1, none⟩) n _) (a := ⟨ob, k * 6 + 2, none⟩) n _) (a := ⟨ob, k * 6 + 3, none⟩) n _) (a := ⟨ob, k * 6 + 4, none⟩) n _) (a := ⟨ob, k * 6 + 5, none⟩) n _).drew
  · exact ((((((h.below.setCell (p := ⟨ob, k * 6, none⟩) hob _).setCell (p := ⟨ob, k * 6 + 1, none⟩) hob _).setCell (p := ⟨ob, k * 6 + 2, none⟩) hob _).setCell (p := ⟨ob, k * 6 + 3, none⟩) hob _).setCell (p := ⟨ob, k * 6 + 4, none⟩) hob _).setCell (p := ⟨ob, k * 6 + 5, none⟩) hob _).drew

set_option maxRecDepth 1000000 in
set_option maxHeartbeats 4000000 in
theorem zz_any (s : ByteArray) (hs : s.size ≤ 65536) (fc : Bool) (w : World) :
    Calls Try.prog 28 #[.string s, .bool fc] w fun e w' => RetZZ s fc w.heap.size e w' ∧ Below w.heap.size w w' := by
  obtain ⟨i0, hi0, hz0, hz1, hz2⟩ := info_parts Try.info44
  go_enter Try.func28, Try.ntmps28
  go_wp2_with fail
  refine (comp_any s hs fc _).mono ?_
  rintro e w1 ⟨hret, hb⟩
  have HB : Hid (Below w.heap.size w w1) := hb
  have hbz := hb.size
  clear hb
  rcases hret with ⟨ao, m, c, L, rfl, hown, hci⟩ | ⟨rfl, hk⟩
  · have HI : Hid (CI fc s s.size L) := hci
    have HO : Hid (w1.ownsRow (w.heap.size + 5) 55 6 (.slice ao m c) L.length (cellsOf L)) := hown
    have hlen : L.length ≤ 65536 := by have := hci.len; omega
    obtain rfl : m = L.length := by
      rcases hown.2 with ⟨h, h0⟩ | ⟨g, cap, cur, h, _⟩
      · simp at h; omega
      · simp at h; omega
    clear hci hown
    have hby : i0.bytes * L.length ≤ 281474976710656 := by rw [hz2]; omega
    go_wp2_with (at_make; refine wpList_make_full _ rfl (.tmp 17) (.tmp 17) 40 rfl w.heap.size 44 i0 _ 6 Try.underlying40 hi0 hz0 hz1 .i64 .i64 (L.length : Int) (L.length : Int) L.length rfl rfl rfl rfl hby (by unfold maxLen; omega) hbz ?_; intro w2 hout2 hgrow2)
    have HZ : Hid (ZW w w1.heap.size ao c L 0 w2) := ⟨⟨_, hout2, by simp⟩, HO.out.kept hgrow2 (by cases (Value.slice ao L.length c).ownBlock <;> simp), HB.out.trans ⟨hgrow2.os, hgrow2.tape, hgrow2.output, hgrow2.size, fun k hk => hgrow2.block k (by omega) (by simp)⟩⟩
    clear hout2 hgrow2 HO HB hi0 hz0 hz1 hz2 hby
    go_loopg [9, 21] L.length (fun g _ v wr => ∃ k : Nat, k + g = L.length ∧ v = .int .i64 k ∧ ZW w w1.heap.size ao c L k wr)
    case atStart => exact ⟨0, by omega, rfl, HZ.out⟩
    case round =>
      obtain ⟨k, hkg, rfl, hzw⟩ := hrel
      have HW : Hid (ZW w w1.heap.size ao c L k wr) := hzw
      clear hzw HZ
      cases gk with
      | zero =>
        obtain rfl : k = L.length := by omega
        go_wp2
        go_ret2
        obtain ⟨ys, hy, hyt⟩ := HW.out.out
        have e : ys = cellsOf L := by
          rw [List.take_of_length_le (by rw [hy.1]; omega), List.take_of_length_le (by rw [cellsOf_len]; omega)] at hyt
          exact hyt
        rw [e] at hy
        exact ⟨Or.inl ⟨_, _, L, rfl, hy, HI.out⟩, HW.out.below⟩
      | succ g2 =>
        have hk : k < L.length := by omega
        obtain ⟨st, hst⟩ : ∃ st, L[k]? = some st := ⟨_, List.getElem?_eq_getElem hk⟩
        obtain ⟨g, rfl, hne, hsrc, hdst, hfr⟩ := HW.out.cells hk hst
        have s0 : wr.cell? ⟨g, k * 6, none⟩ = some (.int .u64 st.set.a) := hsrc 0 (by omega)
        have s1 : wr.cell? ⟨g, k * 6 + 1, none⟩ = some (.int .u64 st.set.b) := hsrc 1 (by omega)
        have s2 : wr.cell? ⟨g, k * 6 + 2, none⟩ = some (.int .u64 st.set.c) := hsrc 2 (by omega)
        have s3 : wr.cell? ⟨g, k * 6 + 3, none⟩ = some (.int .u64 st.set.d) := hsrc 3 (by omega)
        have s4 : wr.cell? ⟨g, k * 6 + 4, none⟩ = some (.bool st.loop) := hsrc 4 (by omega)
        have s5 : wr.cell? ⟨g, k * 6 + 5, none⟩ = some (.int .i64 st.fork) := hsrc 5 (by omega)
        obtain ⟨y0, d0⟩ := hdst 0 (by omega)
        obtain ⟨y1, d1⟩ := hdst 1 (by omega)
        obtain ⟨y2, d2⟩ := hdst 2 (by omega)
        obtain ⟨y3, d3⟩ := hdst 3 (by omega)
        obtain ⟨y4, d4⟩ := hdst 4 (by omega)
        obtain ⟨y5, d5⟩ := hdst 5 (by omega)
        have HD : Hid (L[k]? = some st) := hst
        have f0 := hfr (k * 6)
        have f1 := hfr (k * 6 + 1)
        have f2 := hfr (k * 6 + 2)
        have f3 := hfr (k * 6 + 3)
        have f4 := hfr (k * 6 + 4)
        have f5 := hfr (k * 6 + 5)
        have hki : (k : Int) < (L.length : Int) := by omega
        clear hst hsrc hdst hfr
        rw [Nat.add_zero] at d0
        go_wp2
        go_region
        have HW2 : Hid (ZW w w1.heap.size (some ⟨g, 0, none⟩) c L (k + 1) _) := HW.out.store hbz hne hk HD.out
        clear s0 s1 s2 s3 s4 s5 d0 d1 d2 d3 d4 d5 f0 f1 f2 f3 f4 f5
        go_wp2
        go_roundg g2
        case measure => omega
        case rel => exact ⟨k + 1, by omega, by go_num, HW2.out⟩
  · have HK : Hid (∃ k, k < s.size ∧ (bt s k = 91 ∨ bt s k = 92)) := hk
    clear hk
    have hby : i0.bytes * 0 ≤ 281474976710656 := by omega
    go_wp2_with (at_make; refine wpList_make_full _ rfl (.tmp 17) (.tmp 17) 40 rfl w.heap.size 44 i0 _ 6 Try.underlying40 hi0 hz0 hz1 .i64 .i64 0 0 0 rfl rfl rfl rfl hby (by unfold maxLen; omega) hbz ?_; intro w2 hout2 hgrow2)
    have HB2 : Hid (Below w.heap.size w w2) := HB.out.trans ⟨hgrow2.os, hgrow2.tape, hgrow2.output, hgrow2.size, fun k hk => hgrow2.block k (by omega) (by simp)⟩
    clear hout2 hgrow2 HB hi0 hz0 hz1 hz2 hby
    refine wp_loop_rounds 1 ?_
    rw [rounds_succ]
    go_wp2
    go_ret2
    exact ⟨Or.inr ⟨_, _, rfl, HK.out⟩, HB2.out⟩

end Go.Proofs.Qxb6602360a
