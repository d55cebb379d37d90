/-
  WALK: parseBracket.
-/
import Derived.Test.Qxb6602360aLib
import Derived.Deep.Cut
import Derived.Deep.CutRange
import Derived.Deep.DeepCutAuto
import Derived.Deep.Light
namespace Go.Proofs.Qxb6602360a
open Go.RowKit Plain

/-- What parseBracket hands back: some set, a length, a verdict; on success the length lies in s and the set lacks '/'. -/
def RetParse (s : ByteArray) (e : Ending) : Prop :=
  ∃ (t : S4) (n : Nat) (ok : Bool), t.ok ∧ (ok = true → 1 ≤ n ∧ n ≤ s.size ∧ t.has 47 = false) ∧ e = .returned (.tuple #[.agg (cells4 t), .int .i64 n, .bool ok])

/-- The loop's memory: the result's variable at R as it was made, the set at R + 1. -/
structure PW (w wr : World) (t : S4) : Prop where
  ok : t.ok
  set : HSet wr (w.heap.size + 1) 45 t
  res : HSet wr w.heap.size 45 S4.zero
  size : wr.heap.size = w.heap.size + 2
  below : Below w.heap.size w wr

theorem PW.upd {w wr w' : World} {t t' : S4} (h : PW w wr t) (ho : t'.ok) (hs : HSet w' (w.heap.size + 1) 45 t') (hu : Upd (w.heap.size + 1) wr w') : PW w w' t' := by
  refine ⟨ho, hs, ?_, hu.size.trans h.size, h.below.trans ⟨hu.grown.os, hu.grown.tape, hu.grown.output, hu.grown.size, fun k hk => ?_⟩⟩
  · unfold HSet
    rw [hu.grown.block _ (by rw [h.size]; omega) (by simp)]
    exact h.res
  · exact hu.grown.block k (by rw [h.size]; omega) (by simp; omega)
theorem PW.drawn {w wr : World} {t : S4} (h : PW w wr t) (n : Nat) : PW w (wr.drewN n) t :=
  ⟨h.ok, h.set, h.res, h.size, below_drewN h.below n⟩

/-- What is behind a return: the result's variable holds the set. -/
theorem PW.ret {w wr : World} {t : S4} (h : PW w wr t) {w' : World} (hw : ∀ k, k < w.heap.size → w'.heap[k]? = wr.heap[k]?) (hz : wr.heap.size ≤ w'.heap.size)
    (ho : w'.os = wr.os) (ht : w'.tape = wr.tape) (hp : w'.output = wr.output) : Below w.heap.size w w' :=
  h.below.trans ⟨ho, ht, hp, hz, hw⟩

theorem HSet.cells {w : World} {blk : Nat} {ty : TypeId} {s : S4} (h : HSet w blk ty s) : w.cell? ⟨blk, 0, none⟩ = some (.int .u64 s.a) ∧ w.cell? ⟨blk, 1, none⟩ = some (.int .u64 s.b) ∧ w.cell? ⟨blk, 2, none⟩ = some (.int .u64 s.c) ∧ w.cell? ⟨blk, 3, none⟩ = some (.int .u64 s.d) :=
  ⟨h.cell 0 (by omega), h.cell 1 (by omega), h.cell 2 (by omega), h.cell 3 (by omega)⟩
theorem HSet.frees {w : World} {blk : Nat} {ty : TypeId} {s : S4} (h : HSet w blk ty s) : w.frozen? ⟨blk, 0, none⟩ = false ∧ w.frozen? ⟨blk, 1, none⟩ = false ∧ w.frozen? ⟨blk, 2, none⟩ = false ∧ w.frozen? ⟨blk, 3, none⟩ = false :=
  ⟨h.free 0, h.free 1, h.free 2, h.free 3⟩

theorem S4.put_all (z t : S4) : ((((z.put 0 t.a).put 1 t.b).put 2 t.c).put 3 t.d) = t := by cases t; rfl
/-- Four words stored into a variable of four words. -/
theorem HSet.store4 {W : World} {blk : Nat} {ty : TypeId} {z : S4} (h : HSet W blk ty z) (t : S4) :
    HSet ((((W.setCell ⟨blk, 0, none⟩ (.int .u64 t.a)).setCell ⟨blk, 1, none⟩ (.int .u64 t.b)).setCell ⟨blk, 2, none⟩ (.int .u64 t.c)).setCell ⟨blk, 3, none⟩ (.int .u64 t.d)) blk ty t := by
  have := (((h.store 0 t.a (by omega)).store 1 t.b (by omega)).store 2 t.c (by omega)).store 3 t.d (by omega)
  rw [S4.put_all] at this
  exact this
theorem below_store4 {B : Nat} {w W : World} (h : Below B w W) {blk : Nat} (hb : B ≤ blk) (a b c d : Value) :
    Below B w ((((W.setCell ⟨blk, 0, none⟩ a).setCell ⟨blk, 1, none⟩ b).setCell ⟨blk, 2, none⟩ c).setCell ⟨blk, 3, none⟩ d) :=
  (((h.setCell (show B ≤ (⟨blk, 0, none⟩ : Addr).block from hb) a).setCell (show B ≤ (⟨blk, 1, none⟩ : Addr).block from hb) b).setCell (show B ≤ (⟨blk, 2, none⟩ : Addr).block from hb) c).setCell (show B ≤ (⟨blk, 3, none⟩ : Addr).block from hb) d

theorem pw_start (w : World) (c : Array Value) (hc : c = cells4 S4.zero) : PW w ((w.alloc (.cells c 45)).alloc (.cells c 45)) S4.zero := by
  subst hc
  have hz : (w.alloc (.cells (cells4 S4.zero) 45)).heap.size = w.heap.size + 1 := by simp
  refine ⟨S4.ok_zero, ?_, ?_, by simp, ((Below.refl _ _).alloc (Nat.le_refl _) _).alloc (by simp) _⟩
  · have := heap_alloc_new (w.alloc (.cells (cells4 S4.zero) 45)) (.cells (cells4 S4.zero) 45)
    rw [hz] at this
    exact this
  · unfold HSet
    have h1 : (w.alloc (.cells (cells4 S4.zero) 45)).heap[w.heap.size]? = some (.cells (cells4 S4.zero) 45 (0, 0)) := heap_alloc_new w _
    show ((w.alloc (.cells (cells4 S4.zero) 45)).heap.push _)[w.heap.size]? = _
    rw [Array.getElem?_push, if_neg (by omega)]
    exact h1

set_option maxRecDepth 1000000 in
set_option maxHeartbeats 4000000 in
theorem parse_any (s : ByteArray) (hs : s.size ≤ 65536) (fc : Bool) (w : World) :
    Calls Try.prog 35 #[.string s, .bool fc] w fun e w' => RetParse s e ∧ Below w.heap.size w w' := by
  go_enter Try.func35, Try.ntmps35
  go_upto_region 3 with fail
  go_cut [9] (fun v w1 => ∃ neg : Bool, v = .bool neg ∧ (neg = true → 1 ≤ s.size) ∧ PW w w1 S4.zero)
  case first =>
    by_cases h0 : 0 < s.size
    · go_wp2
      all_goals
        go_meet
        case rel => exact ⟨_, rfl, fun _ => by omega, pw_start w _ rfl⟩
    · go_wp2
      all_goals
        go_meet
        case rel => exact ⟨false, rfl, fun h => (by cases h), pw_start w _ rfl⟩
  case rest =>
    obtain ⟨neg, rfl, hneg, hpw⟩ := hcut
    have HP : Hid (PW w wc S4.zero) := hpw
    have HG : Hid (neg = true → 1 ≤ s.size) := hneg
    clear hpw hneg
    go_upto_if 36 with fail
    go_cut [8] (fun v w1 => ∃ i : Nat, v = .int .i64 i ∧ i ≤ s.size ∧ w1 = wc)
    case first =>
      cases neg
      · go_wp2
        go_meet
        case rel => exact ⟨0, rfl, by omega, rfl⟩
      · go_wp2
        go_meet
        case rel => exact ⟨1, rfl, HG.out (by trivial), rfl⟩
    case rest =>
      obtain ⟨i0, rfl, hi0, rfl⟩ := hcut
      clear HG
      go_wp2
      go_loopg [8, 10, 11] (s.size - i0) (fun g vi vp vf wr => ∃ (i : Nat) (p : Int) (f : Bool) (t : S4), i + g = s.size ∧ -1 ≤ p ∧ p ≤ 255 ∧ vi = .int .i64 i ∧ vp = .int .i64 p ∧ vf = .bool f ∧ PW w wr t)
      case atStart => exact ⟨i0, -1, true, S4.zero, by omega, by omega, by omega, rfl, rfl, rfl, HP.out⟩
      case round =>
        obtain ⟨i, p, f, t, hig, hp1, hp2, rfl, rfl, rfl, hpw⟩ := hrel
        have HW : Hid (PW w wr t) := hpw
        clear hpw HP
        cases gk with
        | zero =>
          obtain rfl : i = s.size := by omega
          obtain ⟨c0, c1, c2, c3⟩ := HW.out.set.cells
          obtain ⟨r0, r1, r2, r3⟩ := HW.out.res.cells
          obtain ⟨f0, f1, f2, f3⟩ := HW.out.res.frees
          go_wp2
          obtain ⟨q0, q1, q2, q3⟩ := (HW.out.res.store4 t).cells
          exact bodyPost_ret (v := .tuple #[.agg (cells4 t), .int .i64 (0 : Nat), .bool false]) (by simp [results, Try.results35, go_sem, q0, q1, q2, q3, cells4]) rfl ⟨⟨t, 0, false, HW.out.ok, fun h => (by cases h), rfl⟩, below_store4 HW.out.below (Nat.le_refl _) _ _ _ _⟩
        | succ g =>
          have hi : i < s.size := by omega
          have hil : ((i : Int) == (s.size : Int)) = false := by rw [beq_eq_false_iff_ne]; omega
          obtain ⟨x, hx⟩ : ∃ x, (s[i]'hi).toNat = x := ⟨_, rfl⟩
          have hx8 : x < 256 := by rw [← hx]; exact (s[i]'hi).toNat_lt
          by_cases h93 : x = 93 ∧ f = false
          · obtain ⟨rfl, rfl⟩ := h93
            clear hp1 hp2
            cases fc <;> cases neg
            · go_wp2_with fail
              refine (remove_any _ 45 t HW.out.ok 47 (by omega) _ HW.out.set).mono ?_
              rintro e w3 ⟨rfl, h3, u3⟩
              have HW3 : Hid (PW w w3 (t.remove 47)) := HW.out.upd (S4.ok_remove HW.out.ok 47 (by omega)) h3 u3
              have hno : Hid ((t.remove 47).has 47 = false) := by have e := S4.has_remove t 47 47 (by omega) (by omega); simp at e; exact e
              clear h3 u3
              obtain ⟨t3, ht3⟩ : ∃ t3, t.remove 47 = t3 := ⟨_, rfl⟩
              rw [ht3] at HW3 hno
              obtain ⟨c0, c1, c2, c3⟩ := HW3.out.set.cells
              obtain ⟨r0, r1, r2, r3⟩ := HW3.out.res.cells
              obtain ⟨f0, f1, f2, f3⟩ := HW3.out.res.frees
              go_wp2
              obtain ⟨q0, q1, q2, q3⟩ := (HW3.out.res.store4 t3).cells
              exact bodyPost_ret (v := .tuple #[.agg (cells4 t3), .int .i64 ((i + 1 : Nat) : Int), .bool true]) (by simp [results, Try.results35, go_sem, q0, q1, q2, q3, cells4]) rfl ⟨⟨t3, i + 1, true, HW3.out.ok, fun _ => ⟨by omega, by omega, hno.out⟩, rfl⟩, below_store4 HW3.out.below (Nat.le_refl _) _ _ _ _⟩
            · go_wp2_with fail
              refine (invert_any _ 45 t HW.out.ok _ HW.out.set).mono ?_
              rintro e w2 ⟨rfl, t2, ho2, h2, u2⟩
              have HW2 : Hid (PW w w2 t2) := HW.out.upd ho2 h2 u2
              clear ho2 h2 u2
              go_wp2_with fail
              refine (remove_any _ 45 t2 HW2.out.ok 47 (by omega) _ HW2.out.set).mono ?_
              rintro e w3 ⟨rfl, h3, u3⟩
              have HW3 : Hid (PW w w3 (t2.remove 47)) := HW2.out.upd (S4.ok_remove HW2.out.ok 47 (by omega)) h3 u3
              have hno : Hid ((t2.remove 47).has 47 = false) := by have e := S4.has_remove t2 47 47 (by omega) (by omega); simp at e; exact e
              clear h3 u3
              obtain ⟨t3, ht3⟩ : ∃ t3, t2.remove 47 = t3 := ⟨_, rfl⟩
              rw [ht3] at HW3 hno
              obtain ⟨c0, c1, c2, c3⟩ := HW3.out.set.cells
              obtain ⟨r0, r1, r2, r3⟩ := HW3.out.res.cells
              obtain ⟨f0, f1, f2, f3⟩ := HW3.out.res.frees
              go_wp2
              obtain ⟨q0, q1, q2, q3⟩ := (HW3.out.res.store4 t3).cells
              exact bodyPost_ret (v := .tuple #[.agg (cells4 t3), .int .i64 ((i + 1 : Nat) : Int), .bool true]) (by simp [results, Try.results35, go_sem, q0, q1, q2, q3, cells4]) rfl ⟨⟨t3, i + 1, true, HW3.out.ok, fun _ => ⟨by omega, by omega, hno.out⟩, rfl⟩, below_store4 HW3.out.below (Nat.le_refl _) _ _ _ _⟩
            · go_wp2_with fail
              refine (fold_any _ 45 t HW.out.ok _ HW.out.set).mono ?_
              rintro e w1 ⟨rfl, t1, hf1, h1, u1⟩
              have HW1 : Hid (PW w w1 t1) := HW.out.upd hf1.1 h1 u1
              clear hf1 h1 u1
              go_wp2_with fail
              refine (remove_any _ 45 t1 HW1.out.ok 47 (by omega) _ HW1.out.set).mono ?_
              rintro e w3 ⟨rfl, h3, u3⟩
              have HW3 : Hid (PW w w3 (t1.remove 47)) := HW1.out.upd (S4.ok_remove HW1.out.ok 47 (by omega)) h3 u3
              have hno : Hid ((t1.remove 47).has 47 = false) := by have e := S4.has_remove t1 47 47 (by omega) (by omega); simp at e; exact e
              clear h3 u3
              obtain ⟨t3, ht3⟩ : ∃ t3, t1.remove 47 = t3 := ⟨_, rfl⟩
              rw [ht3] at HW3 hno
              obtain ⟨c0, c1, c2, c3⟩ := HW3.out.set.cells
              obtain ⟨r0, r1, r2, r3⟩ := HW3.out.res.cells
              obtain ⟨f0, f1, f2, f3⟩ := HW3.out.res.frees
              go_wp2
              obtain ⟨q0, q1, q2, q3⟩ := (HW3.out.res.store4 t3).cells
              exact bodyPost_ret (v := .tuple #[.agg (cells4 t3), .int .i64 ((i + 1 : Nat) : Int), .bool true]) (by simp [results, Try.results35, go_sem, q0, q1, q2, q3, cells4]) rfl ⟨⟨t3, i + 1, true, HW3.out.ok, fun _ => ⟨by omega, by omega, hno.out⟩, rfl⟩, below_store4 HW3.out.below (Nat.le_refl _) _ _ _ _⟩
            · go_wp2_with fail
              refine (fold_any _ 45 t HW.out.ok _ HW.out.set).mono ?_
              rintro e w1 ⟨rfl, t1, hf1, h1, u1⟩
              have HW1 : Hid (PW w w1 t1) := HW.out.upd hf1.1 h1 u1
              clear hf1 h1 u1
              go_wp2_with fail
              refine (invert_any _ 45 t1 HW1.out.ok _ HW1.out.set).mono ?_
              rintro e w2 ⟨rfl, t2, ho2, h2, u2⟩
              have HW2 : Hid (PW w w2 t2) := HW1.out.upd ho2 h2 u2
              clear ho2 h2 u2
              go_wp2_with fail
              refine (remove_any _ 45 t2 HW2.out.ok 47 (by omega) _ HW2.out.set).mono ?_
              rintro e w3 ⟨rfl, h3, u3⟩
              have HW3 : Hid (PW w w3 (t2.remove 47)) := HW2.out.upd (S4.ok_remove HW2.out.ok 47 (by omega)) h3 u3
              have hno : Hid ((t2.remove 47).has 47 = false) := by have e := S4.has_remove t2 47 47 (by omega) (by omega); simp at e; exact e
              clear h3 u3
              obtain ⟨t3, ht3⟩ : ∃ t3, t2.remove 47 = t3 := ⟨_, rfl⟩
              rw [ht3] at HW3 hno
              obtain ⟨c0, c1, c2, c3⟩ := HW3.out.set.cells
              obtain ⟨r0, r1, r2, r3⟩ := HW3.out.res.cells
              obtain ⟨f0, f1, f2, f3⟩ := HW3.out.res.frees
              go_wp2
              obtain ⟨q0, q1, q2, q3⟩ := (HW3.out.res.store4 t3).cells
              exact bodyPost_ret (v := .tuple #[.agg (cells4 t3), .int .i64 ((i + 1 : Nat) : Int), .bool true]) (by simp [results, Try.results35, go_sem, q0, q1, q2, q3, cells4]) rfl ⟨⟨t3, i + 1, true, HW3.out.ok, fun _ => ⟨by omega, by omega, hno.out⟩, rfl⟩, below_store4 HW3.out.below (Nat.le_refl _) _ _ _ _⟩
          · by_cases h92 : x = 92
            · subst h92
              clear h93 hp1 hp2
              by_cases hend : i + 1 = s.size
              · have he : (((i : Int) + 1) == (s.size : Int)) = true := by rw [beq_iff_eq]; omega
                clear hend
                obtain ⟨c0, c1, c2, c3⟩ := HW.out.set.cells
                obtain ⟨r0, r1, r2, r3⟩ := HW.out.res.cells
                obtain ⟨f0, f1, f2, f3⟩ := HW.out.res.frees
                go_wp2
                obtain ⟨q0, q1, q2, q3⟩ := (HW.out.res.store4 t).cells
                exact bodyPost_ret (v := .tuple #[.agg (cells4 t), .int .i64 (0 : Nat), .bool false]) (by simp [results, Try.results35, go_sem, q0, q1, q2, q3, cells4]) rfl ⟨⟨t, 0, false, HW.out.ok, fun h => (by cases h), rfl⟩, below_store4 HW.out.below (Nat.le_refl _) _ _ _ _⟩
              · have he : (((i : Int) + 1) == (s.size : Int)) = false := by rw [beq_eq_false_iff_ne]; omega
                have hi1 : i + 1 < s.size := by omega
                obtain ⟨y, hy⟩ : ∃ y, (s[i + 1]'hi1).toNat = y := ⟨_, rfl⟩
                have hy8 : y < 256 := by rw [← hy]; exact (s[i + 1]'hi1).toNat_lt
                go_wp2_with (go_at_call 51; refine (add_any _ 45 t HW.out.ok y hy8 _ HW.out.set).mono ?_; rintro e w2 ⟨rfl, h2, u2⟩)
                go_roundg (g - 1)
                case measure => omega
                case rel => exact ⟨i + 2, y, false, _, by omega, by omega, by omega, by go_num, rfl, rfl, HW.out.upd (S4.ok_add HW.out.ok y hy8) h2 u2⟩
            · have e92 : ((x : Int) == 92) = false := by rw [beq_eq_false_iff_ne]; omega
              by_cases h45 : x = 45 ∧ 0 ≤ p ∧ ∃ h : i + 1 < s.size, (s[i + 1]'h).toNat ≠ 93
              · obtain ⟨rfl, hp0, hi1, hy93⟩ := h45
                obtain ⟨y, hy⟩ : ∃ y, (s[i + 1]'hi1).toNat = y := ⟨_, rfl⟩
                have hy8 : y < 256 := by rw [← hy]; exact (s[i + 1]'hi1).toNat_lt
                rw [hy] at hy93
                have ey : ((y : Int) != 93) = true := by rw [bne_iff_ne]; omega
                clear h93 h92 hy93
                obtain ⟨b0, rfl⟩ : ∃ b0 : Nat, p = b0 := ⟨p.toNat, by omega⟩
                by_cases c92 : y = 92
                · subst c92
                  by_cases hend : i + 2 = s.size
                  · have he : (((i : Int) + 2) == (s.size : Int)) = true := by rw [beq_iff_eq]; omega
                    clear hend
                    obtain ⟨c0, c1, c2, c3⟩ := HW.out.set.cells
                    obtain ⟨r0, r1, r2, r3⟩ := HW.out.res.cells
                    obtain ⟨f0, f1, f2, f3⟩ := HW.out.res.frees
                    go_wp2
                    obtain ⟨q0, q1, q2, q3⟩ := (HW.out.res.store4 t).cells
                    exact bodyPost_ret (v := .tuple #[.agg (cells4 t), .int .i64 (0 : Nat), .bool false]) (by simp [results, Try.results35, go_sem, q0, q1, q2, q3, cells4]) rfl ⟨⟨t, 0, false, HW.out.ok, fun h => (by cases h), rfl⟩, below_store4 HW.out.below (Nat.le_refl _) _ _ _ _⟩
                  · have he : (((i : Int) + 2) == (s.size : Int)) = false := by rw [beq_eq_false_iff_ne]; omega
                    have hi2 : i + 2 < s.size := by omega
                    obtain ⟨z, hz⟩ : ∃ z, (s[i + 2]'hi2).toNat = z := ⟨_, rfl⟩
                    have hz8 : z < 256 := by rw [← hz]; exact (s[i + 2]'hi2).toNat_lt
                    go_wp2
                    go_loopg [14] (z + 1 - b0) (fun g2 v wr2 => ∃ (b : Nat) (t2 : S4), v = .int .i64 b ∧ z + 1 - b = g2 ∧ b ≤ 256 ∧ PW w wr2 t2)
                    case atStart => exact ⟨b0, t, rfl, rfl, by omega, HW.out⟩
                    case round =>
                      obtain ⟨b, t2, rfl, hbg, hb6, hpw2⟩ := hrel
                      have HW2 : Hid (PW w wr t2) := hpw2
                      clear hpw2 HW
                      cases gk with
                      | zero =>
                        have hgt : ¬ ((b : Int) ≤ (z : Int)) := by omega
                        go_wp2
                        go_roundg (g - 2)
                        case measure => omega
                        case rel => exact ⟨i + 3, -1, false, t2, by omega, by omega, by omega, by go_num, rfl, rfl, HW2.out⟩
                      | succ g2 =>
                        have hle : b ≤ z := by omega
                        go_wp2_with (go_at_call 51; refine (add_any _ 45 t2 HW2.out.ok b (by omega) _ HW2.out.set).mono ?_; rintro e w2 ⟨rfl, h2, u2⟩)
                        go_roundg g2
                        case measure => omega
                        case rel => exact ⟨b + 1, _, by go_num, by omega, by omega, HW2.out.upd (S4.ok_add HW2.out.ok b (by omega)) h2 u2⟩
                · have ey2 : ((y : Int) == 92) = false := by rw [beq_eq_false_iff_ne]; omega
                  clear c92
                  go_wp2
                  go_loopg [14] (y + 1 - b0) (fun g2 v wr2 => ∃ (b : Nat) (t2 : S4), v = .int .i64 b ∧ y + 1 - b = g2 ∧ b ≤ 256 ∧ PW w wr2 t2)
                  case atStart => exact ⟨b0, t, rfl, rfl, by omega, HW.out⟩
                  case round =>
                    obtain ⟨b, t2, rfl, hbg, hb6, hpw2⟩ := hrel
                    have HW2 : Hid (PW w wr t2) := hpw2
                    clear hpw2 HW
                    cases gk with
                    | zero =>
                      have hgt : ¬ ((b : Int) ≤ (y : Int)) := by omega
                      go_wp2
                      go_roundg (g - 1)
                      case measure => omega
                      case rel => exact ⟨i + 2, -1, false, t2, by omega, by omega, by omega, by go_num, rfl, rfl, HW2.out⟩
                    | succ g2 =>
                      have hle : b ≤ y := by omega
                      go_wp2_with (go_at_call 51; refine (add_any _ 45 t2 HW2.out.ok b (by omega) _ HW2.out.set).mono ?_; rintro e w2 ⟨rfl, h2, u2⟩)
                      go_roundg g2
                      case measure => omega
                      case rel => exact ⟨b + 1, _, by go_num, by omega, by omega, HW2.out.upd (S4.ok_add HW2.out.ok b (by omega)) h2 u2⟩
              · by_cases h91 : x = 91
                · subst h91
                  clear h93 h92 h45
                  have hsx : (s.extract (i + 1) s.size).size = s.size - (i + 1) := by rw [size_extract]; omega
                  obtain ⟨sx, hsxe⟩ : ∃ sx, s.extract (i + 1) s.size = sx := ⟨_, rfl⟩
                  rw [hsxe] at hsx
                  have hsx2 : sx.size ≤ 65536 := by omega
                  go_wp2_with fail
                  refine (hasPrefix55a sx hsx2 _).mono ?_
                  rintro e w1 ⟨⟨v, hv, rfl⟩, hw1⟩
                  rw [hw1]
                  clear hw1
                  have HV : Hid (v = true → 1 ≤ sx.size) := hv
                  clear hv
                  cases v with
                  | false =>
                    clear HV hsxe
                    go_wp2_with (go_at_call 51; refine (add_any _ 45 t HW.out.ok 91 (by omega) _ HW.out.set).mono ?_; rintro e w2 ⟨rfl, h2, u2⟩)
                    go_roundg g
                    case measure => omega
                    case rel => exact ⟨i + 1, 91, false, _, by omega, by omega, by omega, by go_num, rfl, rfl, HW.out.upd (S4.ok_add HW.out.ok 91 (by omega)) h2 u2⟩
                  | true =>
                    have hi2 : i + 2 ≤ s.size := by have := HV.out rfl; omega
                    clear HV hsxe hsx hsx2
                    obtain ⟨sy, hsye⟩ : ∃ sy, s.extract (i + 2) s.size = sy := ⟨_, rfl⟩
                    have hsy : sy.size = s.size - (i + 2) := by rw [← hsye, size_extract]; omega
                    have hsy2 : sy.size ≤ 65536 := by omega
                    go_wp2_with fail
                    refine (cut56 sy hsy2 _).mono ?_
                    rintro e w2 ⟨⟨nm, af, cb, hcb, rfl⟩, n2, rfl⟩
                    have HWd : Hid (PW w (wr.drewN n2) t) := HW.out.drawn n2
                    obtain ⟨wd, hwd⟩ : ∃ wd, wr.drewN n2 = wd := ⟨_, rfl⟩
                    rw [hwd] at HWd
                    rw [hwd]
                    clear hwd HW hsye
                    cases cb with
                    | false =>
                      clear hcb
                      obtain ⟨c0, c1, c2, c3⟩ := HWd.out.set.cells
                      obtain ⟨r0, r1, r2, r3⟩ := HWd.out.res.cells
                      obtain ⟨f0, f1, f2, f3⟩ := HWd.out.res.frees
                      go_wp2
                      obtain ⟨q0, q1, q2, q3⟩ := (HWd.out.res.store4 t).cells
                      exact bodyPost_ret (v := .tuple #[.agg (cells4 t), .int .i64 (0 : Nat), .bool false]) (by simp [results, Try.results35, go_sem, q0, q1, q2, q3, cells4]) rfl ⟨⟨t, 0, false, HWd.out.ok, fun h => (by cases h), rfl⟩, below_store4 HWd.out.below (Nat.le_refl _) _ _ _ _⟩
                    | true =>
                      have hnm : nm.size + 1 ≤ sy.size := by
                        rcases hcb with ⟨h, _⟩ | ⟨_, h⟩
                        · cases h
                        · exact h
                      have hnm2 : nm.size ≤ 65536 := by omega
                      clear hcb
                      go_wp2_with fail
                      refine (cutSuffix57 nm hnm2 _).mono ?_
                      rintro e w3 ⟨⟨cl, v2, rfl⟩, hw3⟩
                      rw [hw3]
                      clear hw3
                      cases v2 with
                      | false =>
                        go_wp2_with (go_at_call 51; refine (add_any _ 45 t HWd.out.ok 91 (by omega) _ HWd.out.set).mono ?_; rintro e w2 ⟨rfl, h2, u2⟩)
                        go_roundg g
                        case measure => omega
                        case rel => exact ⟨i + 1, 91, false, _, by omega, by omega, by omega, by go_num, rfl, rfl, HWd.out.upd (S4.ok_add HWd.out.ok 91 (by omega)) h2 u2⟩
                      | true =>
                        go_wp2_with fail
                        refine (addClass_any _ 45 t HWd.out.ok cl _ HWd.out.set).mono ?_
                        rintro e w4 ⟨⟨v4, rfl⟩, t4, ho4, h4, u4⟩
                        have HW4 : Hid (PW w w4 t4) := HWd.out.upd ho4 h4 u4
                        clear ho4 h4 u4 HWd
                        cases v4 with
                        | false =>
                          obtain ⟨c0, c1, c2, c3⟩ := HW4.out.set.cells
                          obtain ⟨r0, r1, r2, r3⟩ := HW4.out.res.cells
                          obtain ⟨f0, f1, f2, f3⟩ := HW4.out.res.frees
                          go_wp2
                          obtain ⟨q0, q1, q2, q3⟩ := (HW4.out.res.store4 t4).cells
                          exact bodyPost_ret (v := .tuple #[.agg (cells4 t4), .int .i64 (0 : Nat), .bool false]) (by simp [results, Try.results35, go_sem, q0, q1, q2, q3, cells4]) rfl ⟨⟨t4, 0, false, HW4.out.ok, fun h => (by cases h), rfl⟩, below_store4 HW4.out.below (Nat.le_refl _) _ _ _ _⟩
                        | true =>
                          go_wp2
                          go_roundg (g - (2 + nm.size))
                          case measure => omega
                          case rel => exact ⟨i + (2 + nm.size + 1), -1, false, t4, by omega, by omega, by omega, by go_num, rfl, rfl, HW4.out⟩
                · -- the byte itself
                  have e91 : ((x : Int) == 91) = false := by rw [beq_eq_false_iff_ne]; omega
                  by_cases c93 : x = 93
                  · subst c93
                    obtain rfl : f = true := by
                      cases f with
                      | true => rfl
                      | false => exact absurd ⟨rfl, rfl⟩ h93
                    clear h93 h92 h45 h91
                    go_wp2_with (go_at_call 51; refine (add_any _ 45 t HW.out.ok 93 (by omega) _ HW.out.set).mono ?_; rintro e w2 ⟨rfl, h2, u2⟩)
                    go_roundg g
                    case measure => omega
                    case rel => exact ⟨i + 1, 93, false, _, by omega, by omega, by omega, by go_num, rfl, rfl, HW.out.upd (S4.ok_add HW.out.ok 93 (by omega)) h2 u2⟩
                  · have e93 : ((x : Int) == 93) = false := by rw [beq_eq_false_iff_ne]; omega
                    by_cases c45 : x = 45
                    · subst c45
                      by_cases hp0 : 0 ≤ p
                      · by_cases hi1 : i + 1 < s.size
                        · have hy : (s[i + 1]'hi1).toNat = 93 := by
                            by_cases e : (s[i + 1]'hi1).toNat = 93
                            · exact e
                            · exact absurd ⟨rfl, hp0, hi1, e⟩ h45
                          clear h93 h92 h45 h91 c93
                          go_wp2_with (go_at_call 51; refine (add_any _ 45 t HW.out.ok 45 (by omega) _ HW.out.set).mono ?_; rintro e w2 ⟨rfl, h2, u2⟩)
                          go_roundg g
                          case measure => omega
                          case rel => exact ⟨i + 1, 45, false, _, by omega, by omega, by omega, by go_num, rfl, rfl, HW.out.upd (S4.ok_add HW.out.ok 45 (by omega)) h2 u2⟩
                        · clear h93 h92 h45 h91 c93
                          go_wp2_with (go_at_call 51; refine (add_any _ 45 t HW.out.ok 45 (by omega) _ HW.out.set).mono ?_; rintro e w2 ⟨rfl, h2, u2⟩)
                          go_roundg g
                          case measure => omega
                          case rel => exact ⟨i + 1, 45, false, _, by omega, by omega, by omega, by go_num, rfl, rfl, HW.out.upd (S4.ok_add HW.out.ok 45 (by omega)) h2 u2⟩
                      · clear h93 h92 h45 h91 c93
                        go_wp2_with (go_at_call 51; refine (add_any _ 45 t HW.out.ok 45 (by omega) _ HW.out.set).mono ?_; rintro e w2 ⟨rfl, h2, u2⟩)
                        go_roundg g
                        case measure => omega
                        case rel => exact ⟨i + 1, 45, false, _, by omega, by omega, by omega, by go_num, rfl, rfl, HW.out.upd (S4.ok_add HW.out.ok 45 (by omega)) h2 u2⟩
                    · have e45 : ((x : Int) == 45) = false := by rw [beq_eq_false_iff_ne]; omega
                      clear h93 h92 h45 h91 c93 c45
                      go_wp2_with (go_at_call 51; refine (add_any _ 45 t HW.out.ok x (by omega) _ HW.out.set).mono ?_; rintro e w2 ⟨rfl, h2, u2⟩)
                      go_roundg g
                      case measure => omega
                      case rel => exact ⟨i + 1, x, false, _, by omega, by omega, by omega, by go_num, rfl, rfl, HW.out.upd (S4.ok_add HW.out.ok x (by omega)) h2 u2⟩

end Go.Proofs.Qxb6602360a
