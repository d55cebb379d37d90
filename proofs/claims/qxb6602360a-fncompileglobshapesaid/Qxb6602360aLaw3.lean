/-
  WALK: foldSet.
-/
import Derived.Test.Qxb6602360aLaw1
import Derived.Deep.RegionWith
import Derived.Deep.RegionLaw
namespace Go.Proofs.Qxb6602360a
open Go.RowKit Plain

/-- Of the letters of s those below b have lent their other case. -/
def FoldB (s t : S4) (b : Nat) : Prop := t.ok ∧ ∀ y, y < 256 → t.has y = (s.has y || (letter y && s.has (other y) && decide (other y < b)))
theorem FoldB.start {s : S4} (h : s.ok) : FoldB s s 0 := ⟨h, fun y _ => by simp⟩
theorem FoldB.hit {s t : S4} {b : Nat} (h : FoldB s t b) (hl : letter b = true) (hh : s.has b = true) : FoldB s (t.add (other b)) (b + 1) := by
  have ho := letter_other hl
  refine ⟨S4.ok_add h.1 _ ho.1, fun y hy => ?_⟩
  rw [S4.has_add _ _ _ ho.1 hy, h.2 y hy]
  by_cases e : other b = y
  · subst e
    rw [decide_eq_true rfl, ho.2.1, ho.2.2.1, hh, decide_eq_true (show b < b + 1 by omega)]
    simp
  · rw [decide_eq_false e, Bool.or_false]
    cases hy' : letter y with
    | false => simp
    | true =>
      have hoy := letter_other hy'
      have : decide (other y < b) = decide (other y < b + 1) := by
        rw [decide_eq_decide]
        have : other y ≠ b := fun c => e (by rw [← c]; exact hoy.2.2.1)
        omega
      rw [this]
theorem FoldB.miss {s t : S4} {b : Nat} (h : FoldB s t b) (hm : ¬ (letter b = true ∧ s.has b = true)) : FoldB s t (b + 1) := by
  refine ⟨h.1, fun y hy => ?_⟩
  rw [h.2 y hy]
  cases hy' : letter y with
  | false => simp
  | true =>
    have hoy := letter_other hy'
    by_cases e : other y = b
    · have : s.has (other y) = false := by
        cases c : s.has (other y) with
        | false => rfl
        | true => exact absurd ⟨by rw [← e]; exact hoy.2.1, by rw [← e]; exact c⟩ hm
      rw [this]; simp
    · have : decide (other y < b) = decide (other y < b + 1) := by rw [decide_eq_decide]; omega
      rw [this]
theorem FoldB.lit {x : Nat} (hx : x < 256) {t : S4} (h : FoldB (S4.zero.add x) t 256) : t = lit true x := by
  refine fold_lit hx ⟨h.1, fun y hy => ?_⟩
  rw [h.2 y hy]
  cases hy' : letter y with
  | false => simp
  | true =>
    have hoy := letter_other hy'
    have d1 : decide (other y < 256) = true := decide_eq_true hoy.1
    have d2 : decide (low y < 123) = true := decide_eq_true (by have := (letter_iff y).1 hy'; unfold low; split <;> omega)
    rw [d1, d2]

theorem bitWith_lit (s : S4) (hs : s.ok) (x : Nat) (hx : x < 256) (t : S4) (ht : s.add x = t) (w : World) :
    Calls Try.prog 17 #[.agg #[.int .u64 s.a, .int .u64 s.b, .int .u64 s.c, .int .u64 s.d], .int .i64 x] w fun e w' => e = .returned (.agg #[.int .u64 t.a, .int .u64 t.b, .int .u64 t.c, .int .u64 t.d]) ∧ Made w w' := by
  subst ht
  exact bitWith_any s hs x hx w
theorem bitHas_lit (s : S4) (hs : s.ok) (x : Nat) (hx : x < 256) (v : Bool) (hv : s.has x = v) (w : World) :
    Calls Try.prog 26 #[.agg #[.int .u64 s.a, .int .u64 s.b, .int .u64 s.c, .int .u64 s.d], .int .i64 x] w fun e w' => e = .returned (.bool v) ∧ Made w w' := by
  subst hv
  exact bitHas_any s hs x hx w
theorem HSet.made {w W : World} {b : Nat} {ty : TypeId} {s : S4} (h : HSet w b ty s) (m : Made w W) : HSet W b ty s := by
  unfold HSet
  rw [m.block b h.lt]; exact h
theorem made_drew3 (w : World) : Made w w.drew := ⟨rfl, rfl, rfl, Nat.le_refl _, fun _ _ => rfl⟩
theorem letter_lit (x : Nat) (hx : x < 256) (v : Bool) (hv : letter x = v) (w : World) :
    Calls Try.prog 36 #[.int .i64 x] w fun e w' => e = .returned (.bool v) ∧ w' = w := by
  subst hv
  exact letter36 x hx w
theorem made_store4 {w W : World} (h : Made w W) {blk : Nat} (hb : w.heap.size ≤ blk) (a b c d : Value) :
    Made w ((((W.setCell ⟨blk, 0, none⟩ a).setCell ⟨blk, 1, none⟩ b).setCell ⟨blk, 2, none⟩ c).setCell ⟨blk, 3, none⟩ d) :=
  ⟨h.os, h.tape, h.output, by simp [World.setCell]; exact h.size, fun k hk => by
    rw [Below.heap_setCell _ _ _ _ (show k ≠ blk by omega), Below.heap_setCell _ _ _ _ (show k ≠ blk by omega), Below.heap_setCell _ _ _ _ (show k ≠ blk by omega), Below.heap_setCell _ _ _ _ (show k ≠ blk by omega)]
    exact h.block k hk⟩

structure FW (s : S4) (w wr : World) (t : S4) : Prop where
  arg : HSet wr w.heap.size 23 s
  res : HSet wr (w.heap.size + 1) 23 S4.zero
  out : HSet wr (w.heap.size + 2) 23 t
  made : Made w wr

theorem FW.store {s : S4} {w W : World} {t : S4} (h : FW s w W t) (t2 : S4) :
    FW s w ((((W.setCell ⟨w.heap.size + 2, 0, none⟩ (.int .u64 t2.a)).setCell ⟨w.heap.size + 2, 1, none⟩ (.int .u64 t2.b)).setCell ⟨w.heap.size + 2, 2, none⟩ (.int .u64 t2.c)).setCell ⟨w.heap.size + 2, 3, none⟩ (.int .u64 t2.d)) t2 := by
  have keep : ∀ k, k ≠ w.heap.size + 2 → ((((W.setCell ⟨w.heap.size + 2, 0, none⟩ (.int .u64 t2.a)).setCell ⟨w.heap.size + 2, 1, none⟩ (.int .u64 t2.b)).setCell ⟨w.heap.size + 2, 2, none⟩ (.int .u64 t2.c)).setCell ⟨w.heap.size + 2, 3, none⟩ (.int .u64 t2.d)).heap[k]? = W.heap[k]? := fun k hk => by
    rw [Below.heap_setCell _ _ _ _ hk, Below.heap_setCell _ _ _ _ hk, Below.heap_setCell _ _ _ _ hk, Below.heap_setCell _ _ _ _ hk]
  refine ⟨?_, ?_, h.out.store4 t2, made_store4 h.made (by omega) _ _ _ _⟩
  · unfold HSet; rw [keep _ (by omega)]; exact h.arg
  · unfold HSet; rw [keep _ (by omega)]; exact h.res

set_option maxRecDepth 1000000 in
set_option maxHeartbeats 4000000 in
theorem foldSet_any (s : S4) (hs : s.ok) (w : World) :
    Calls Try.prog 21 #[aggOf s] w fun e w' => (∃ t, FoldB s t 256 ∧ e = .returned (aggOf t)) ∧ Made w w' := by
  have HS : Hid s.ok := hs
  clear hs
  unfold aggOf
  go_enter Try.func21, Try.ntmps21
  go_wp2
  go_loopg [4] 256 (fun g v wr => ∃ (b : Nat) (t : S4), b + g = 256 ∧ v = .int .i64 b ∧ FoldB s t b ∧ FW s w wr t)
  case atStart =>
    refine ⟨0, s, by omega, rfl, FoldB.start HS.out, ⟨?_, ?_, ?_, ((made_one _ _).alloc _).alloc _⟩⟩
    · exact ((hset_new w 23 s).made (made_one _ _)).made (made_one _ _)
    · have := hset_new (w.alloc (.cells (cells4 s) 23)) 23 S4.zero
      have hz : (w.alloc (.cells (cells4 s) 23)).heap.size = w.heap.size + 1 := by simp
      rw [hz] at this
      exact this.made (made_one _ _)
    · have := hset_new ((w.alloc (.cells (cells4 s) 23)).alloc (.cells (cells4 S4.zero) 23)) 23 s
      have hz : ((w.alloc (.cells (cells4 s) 23)).alloc (.cells (cells4 S4.zero) 23)).heap.size = w.heap.size + 2 := by simp
      rw [hz] at this
      exact this
  case round =>
    obtain ⟨b, t, hbg, rfl, hf0, hw0⟩ := hrel
    have HF : Hid (FoldB s t b) := hf0
    have HW : Hid (FW s w wr t) := hw0
    clear hf0 hw0
    cases gk with
    | zero =>
      obtain rfl : b = 256 := by omega
      obtain ⟨c0, c1, c2, c3⟩ := HW.out.out.words
      obtain ⟨r0, r1, r2, r3⟩ := HW.out.res.words
      obtain ⟨f0, f1, f2, f3⟩ := HW.out.res.frees
      go_wp2
      obtain ⟨q0, q1, q2, q3⟩ := (HW.out.res.store4 t).words
      exact bodyPost_ret (v := .agg #[.int .u64 t.a, .int .u64 t.b, .int .u64 t.c, .int .u64 t.d]) (by simp [results, Try.results21, go_sem, q0, q1, q2, q3]) rfl ⟨⟨t, HF.out, rfl⟩, made_store4 HW.out.made (by omega) _ _ _ _⟩
    | succ g =>
      have hb : b < 256 := by omega
      cases hl : letter b with
      | false =>
        have HM : Hid (FoldB s t (b + 1)) := HF.out.miss (fun h => by rw [hl] at h; cases h.1)
        go_wp2_with (go_at_call 36; refine (letter_lit b hb false hl _).mono ?_; rintro e w1 ⟨rfl, hw1⟩; rw [hw1])
        go_roundg g
        case measure => omega
        case rel => exact ⟨b + 1, t, by omega, by go_num, HM.out, HW.out⟩
      | true =>
        obtain ⟨a0, a1, a2, a3⟩ := HW.out.arg.words
        cases hh : s.has b with
        | false =>
          have HM : Hid (FoldB s t (b + 1)) := HF.out.miss (fun h => by rw [hh] at h; cases h.2)
          go_wp2_with fail
          refine (letter_lit b hb true hl _).mono ?_
          rintro e w1 ⟨rfl, hw1⟩
          rw [hw1]
          clear hw1
          go_wp2_with fail
          refine (bitHas_lit s HS.out b hb false hh _).mono ?_
          rintro e w2 ⟨rfl, m2⟩
          have HW2 : Hid (FW s w w2 t) := ⟨HW.out.arg.made m2, HW.out.res.made m2, HW.out.out.made m2, HW.out.made.trans m2⟩
          clear m2 a0 a1 a2 a3
          go_wp2
          go_roundg g
          case measure => omega
          case rel => exact ⟨b + 1, t, by omega, by go_num, HM.out, HW2.out⟩
        | true =>
          have HM : Hid (FoldB s (t.add (other b)) (b + 1)) := HF.out.hit hl hh
          obtain ⟨t2, ht2⟩ : ∃ t2, t.add (other b) = t2 := ⟨_, rfl⟩
          rw [ht2] at HM
          have HT2 : Hid (t.add (other b) = t2) := ht2
          have hob := (letter_other hl).1
          have HL : Hid (letter b = true) := hl
          clear ht2
          go_wp2_with fail
          refine (letter_lit b hb true hl _).mono ?_
          rintro e w1 ⟨rfl, hw1⟩
          rw [hw1]
          clear hw1
          go_wp2_with fail
          refine (bitHas_lit s HS.out b hb true hh _).mono ?_
          rintro e w2 ⟨rfl, m2⟩
          have HW2 : Hid (FW s w w2 t) := ⟨HW.out.arg.made m2, HW.out.res.made m2, HW.out.out.made m2, HW.out.made.trans m2⟩
          clear m2 a0 a1 a2 a3 hl hh HW
          obtain ⟨c0, c1, c2, c3⟩ := HW2.out.out.words
          obtain ⟨ob, hobe⟩ : ∃ ob, other b = ob := ⟨_, rfl⟩
          rw [hobe] at hob HT2
          have H37 : Hid (∀ w, Calls Try.prog 37 #[.int .i64 b] w fun e w' => e = .returned (.int .i64 ob) ∧ w' = w) := by
            rw [← hobe]; exact fun w => other37 b hb HL.out w
          clear hobe
          go_upto_region 6 with fail
          go_region_with (first | (go_at_call 37; refine (H37.out _).mono ?_; rintro e w3 ⟨rfl, hw3⟩; rw [hw3]) | (go_at_call 17; refine (bitWith_lit t HF.out.1 ob hob t2 HT2.out _).mono ?_; rintro e w4 ⟨rfl, m4⟩; have HW4 : FW s w w4 t := ⟨(HW2.out.arg).made ((made_drew3 w2).trans m4), (HW2.out.res).made ((made_drew3 w2).trans m4), (HW2.out.out).made ((made_drew3 w2).trans m4), (HW2.out.made).trans ((made_drew3 w2).trans m4)⟩; obtain ⟨o0, o1, o2, o3⟩ := HW4.out.words; obtain ⟨p0, p1, p2, p3⟩ := HW4.out.frees))
          all_goals
            go_wp2
            go_roundg g
            case measure => omega
            case rel => exact ⟨b + 1, t2, by omega, by go_num, HM.out, HW4.store t2⟩

end Go.Proofs.Qxb6602360a
