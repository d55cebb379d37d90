/-
  THE LAW's OWN WALK: FnCompileGlobShape.
-/
import Derived.Test.Qxb6602360aZZ
import Derived.Test.Qxb6602360aLaw2
import Derived.Test.Qxb6602360aLaw3
import Derived.Test.Qxb6602360aLaw4
import Derived.Deep.QuietTactic
import Derived.BigQuiet
namespace Go.Proofs.Qxb6602360a
open Go.RowKit Plain

theorem bitWithout_lit (s : S4) (hs : s.ok) (x : Nat) (hx : x < 256) (t : S4) (ht : s.remove x = t) (w : World) :
    Calls Try.prog 32 #[.agg #[.int .u64 s.a, .int .u64 s.b, .int .u64 s.c, .int .u64 s.d], .int .i64 x] w fun e w' => e = .returned (.agg #[.int .u64 t.a, .int .u64 t.b, .int .u64 t.c, .int .u64 t.d]) ∧ Made w w' := by
  subst ht
  exact bitWithout_any s hs x hx w
theorem made_below' {w W w' : World} (h : Below w.heap.size w W) (m : Made W w') : Below w.heap.size w w' :=
  h.trans ⟨m.os, m.tape, m.output, m.size, fun k hk => m.block k (by have := h.size; omega)⟩

theorem ns_call (w : World) :
    Calls Try.prog 32 #[.agg #[.int .u64 18446744073709551615, .int .u64 18446744073709551615, .int .u64 18446744073709551615, .int .u64 18446744073709551615], .int .i64 47] w fun e w' => e = .returned (.agg #[.int .u64 S4.notSlash.a, .int .u64 S4.notSlash.b, .int .u64 S4.notSlash.c, .int .u64 S4.notSlash.d]) ∧ Made w w' :=
  bitWithout_lit S4.full S4.ok_full 47 (by omega) S4.notSlash rfl w
theorem sl_call (w : World) :
    Calls Try.prog 17 #[.agg #[.int .u64 0, .int .u64 0, .int .u64 0, .int .u64 0], .int .i64 47] w fun e w' => e = .returned (.agg #[.int .u64 S4.slash.a, .int .u64 S4.slash.b, .int .u64 S4.slash.c, .int .u64 S4.slash.d]) ∧ Made w w' :=
  bitWith_lit S4.zero S4.ok_zero 47 (by omega) S4.slash rfl w

theorem ns_ne : S4.notSlash ≠ S4.full := by
  intro h
  have h1 := ns_no
  rw [h, S4.has_full] at h1
  exact Bool.noConfusion h1
/-- The law's memory. -/
structure LW (s : ByteArray) (fc : Bool) (w : World) (g c : Nat) (L : List Step) (b7 b8 b9 : Nat) (wr : World) : Prop where
  al : HSet wr b7 23 S4.full
  ns : HSet wr b8 23 S4.notSlash
  sl : HSet wr b9 23 S4.slash
  own : wr.ownsRow w.heap.size 44 6 (.slice (some ⟨g, 0, none⟩) L.length c) L.length (cellsOf L)
  below : Below w.heap.size w wr
  ci : CI fc s s.size L
theorem LW.made {s : ByteArray} {fc : Bool} {w : World} {g c : Nat} {L : List Step} {b7 b8 b9 : Nat} {wr w' : World} (h : LW s fc w g c L b7 b8 b9 wr) (m : Made wr w') : LW s fc w g c L b7 b8 b9 w' :=
  ⟨h.al.made m, h.ns.made m, h.sl.made m, h.own.kept m.grown (by cases (Value.slice (some (⟨g, 0, none⟩ : Addr)) L.length c).ownBlock <;> simp), made_below' h.below m, h.ci⟩
theorem LW.cells {s : ByteArray} {fc : Bool} {w : World} {g c : Nat} {L : List Step} {b7 b8 b9 : Nat} {wr : World} (h : LW s fc w g c L b7 b8 b9 wr) {k : Nat} {st : Step} (hst : L[k]? = some st) :
    wr.cell? ⟨g, k * 6, none⟩ = some (.int .u64 st.set.a) ∧ wr.cell? ⟨g, k * 6 + 1, none⟩ = some (.int .u64 st.set.b) ∧ wr.cell? ⟨g, k * 6 + 2, none⟩ = some (.int .u64 st.set.c) ∧ wr.cell? ⟨g, k * 6 + 3, none⟩ = some (.int .u64 st.set.d) ∧ wr.cell? ⟨g, k * 6 + 4, none⟩ = some (.bool st.loop) ∧ wr.cell? ⟨g, k * 6 + 5, none⟩ = some (.int .i64 st.fork) := by
  have hk : k < L.length := (List.getElem?_eq_some_iff.1 hst).1
  have q : ∀ j, j < 6 → wr.cell? ⟨g, k * 6 + j, none⟩ = st.cells[j]? := fun j hj => by rw [h.own.cellAt (k * 6 + j) (by omega), cellsOf_at L k st hst j hj]
  exact ⟨q 0 (by omega), q 1 (by omega), q 2 (by omega), q 3 (by omega), q 4 (by omega), q 5 (by omega)⟩

/-- Block b is a step. -/
def HStep (W : World) (b : Nat) (st : Step) : Prop := W.heap[b]? = some (.cells #[.int .u64 st.set.a, .int .u64 st.set.b, .int .u64 st.set.c, .int .u64 st.set.d, .bool st.loop, .int .i64 st.fork] 44 (0, 0))
theorem HStep.made {w W : World} {b : Nat} {s : Step} (h : HStep w b s) (m : Made w W) : HStep W b s := by
  unfold HStep
  rw [m.block b (lt_of_block h)]; exact h
theorem HStep.words {W : World} {b : Nat} {st : Step} (h : HStep W b st) :
    W.cell? ⟨b, 0, none⟩ = some (.int .u64 st.set.a) ∧ W.cell? ⟨b, 1, none⟩ = some (.int .u64 st.set.b) ∧ W.cell? ⟨b, 2, none⟩ = some (.int .u64 st.set.c) ∧ W.cell? ⟨b, 3, none⟩ = some (.int .u64 st.set.d) ∧ W.cell? ⟨b, 4, none⟩ = some (.bool st.loop) ∧ W.cell? ⟨b, 5, none⟩ = some (.int .i64 st.fork) := by
  have h' := h
  unfold HStep at h'
  have hlt := lt_of_block h'
  rw [Array.getElem?_eq_getElem hlt] at h'
  refine ⟨?_, ?_, ?_, ?_, ?_, ?_⟩ <;> simp_all [World.cell?]
theorem step_new (w : World) (st : Step) : HStep (w.alloc (.cells #[.int .u64 st.set.a, .int .u64 st.set.b, .int .u64 st.set.c, .int .u64 st.set.d, .bool st.loop, .int .i64 st.fork] 44)) w.heap.size st := heap_alloc_new w _

set_option maxRecDepth 1000000 in
set_option maxHeartbeats 4000000 in
theorem law_big (s : ByteArray) (hs : s.size ≤ 65536) (fc : Bool) (w : World) :
    Calls Try.prog 11 #[.string s, .bool fc] w fun e w' => e = .returned (.bool true) ∧ Below w.heap.size w w' := by
  go_enter Try.func11, Try.ntmps11
  go_wp2_with fail
  refine (bytes30_yes s fc (by omega) _).mono ?_
  rintro e w0 ⟨rfl, hw0⟩
  rw [hw0]
  clear hw0
  go_wp2_with fail
  refine (zz_any s hs fc _).mono ?_
  rintro e w1 ⟨hret, hb⟩
  have HB : Hid (Below w.heap.size w w1) := hb
  have hbz := hb.size
  clear hb
  rcases hret with ⟨g, c, L, rfl, hown, hci⟩ | ⟨ao, c, rfl, hk⟩
  · have HI : Hid (CI fc s s.size L) := hci
    have HO : Hid (w1.ownsRow w.heap.size 44 6 (.slice (some ⟨g, 0, none⟩) L.length c) L.length (cellsOf L)) := hown
    have hlen : L.length ≤ s.size := by have := hci.len; omega
    clear hci hown
    go_wp2_with fail
    refine (ns_call _).mono ?_
    rintro e w2 ⟨rfl, m2⟩
    have HN2 : Hid (HSet w2 w1.heap.size 23 S4.full ∧ Made w1 w2) := ⟨HSet.made (hset_new w1 23 S4.full) m2, (made_one _ _).trans m2⟩
    clear m2
    go_wp2_with fail
    refine (sl_call _).mono ?_
    rintro e w3 ⟨rfl, m3⟩
    have HW0 : Hid (LW s fc w g c L w1.heap.size w2.heap.size w3.heap.size (w3.alloc (.cells (cells4 S4.slash) 23))) := by
      obtain ⟨h1, h2⟩ := HN2.out
      have q : Made w2 w3 := (made_one _ _).trans m3
      have q2 : Made w1 (w3.alloc (.cells (cells4 S4.slash) 23)) := (h2.trans q).alloc _
      exact ⟨h1.made (q.alloc _), (HSet.made (hset_new w2 23 S4.notSlash) m3).made (made_one _ _), hset_new w3 23 S4.slash,
        HO.out.kept q2.grown (by cases (Value.slice (some (⟨g, 0, none⟩ : Addr)) L.length c).ownBlock <;> simp), made_below' HB.out q2, HI.out⟩
    clear m3 HN2 HO HB HI
    obtain ⟨b7, hb7⟩ : ∃ b, w1.heap.size = b := ⟨_, rfl⟩
    obtain ⟨b8, hb8⟩ : ∃ b, w2.heap.size = b := ⟨_, rfl⟩
    obtain ⟨b9, hb9⟩ : ∃ b, w3.heap.size = b := ⟨_, rfl⟩
    rw [hb7, hb8, hb9] at HW0
    obtain ⟨sb, hsb⟩ : ∃ sb, SpB s sb := spB_ex s
    have HSB : Hid (SpB s sb) := hsb
    clear hsb
    go_wp2_with fail
    go_loopg [10] L.length (fun gg v wr => ∃ k : Nat, k + gg = L.length ∧ v = .int .i64 k ∧ LW s fc w g c L b7 b8 b9 wr)
    case atStart => exact ⟨0, by omega, rfl, HW0.out⟩
    case round =>
      obtain ⟨k, hkg, rfl, hlw⟩ := hrel
      have HW : Hid (LW s fc w g c L b7 b8 b9 wr) := hlw
      clear hlw HW0
      cases gk with
      | zero =>
        go_wp2_with fail
        refine (special_any s hs sb HSB.out _).mono ?_
        rintro e w5 ⟨rfl, hw5⟩
        rw [hw5]
        clear hw5
        cases sb with
        | true =>
          go_wp2
          go_ret
          exact ⟨rfl, HW.out.below⟩
        | false =>
          have hL : L = lits fc s s.size := HW.out.ci.plain (HSB.out.1 rfl)
          have hLl : L.length = s.size := by rw [hL]; simp [lits]
          have HL : Hid (L = lits fc s s.size) := hL
          clear hL hlen
          go_upto_region 35 with fail
          go_loopg [14] s.size (fun gg v wr => ∃ k : Nat, k + gg = s.size ∧ v = .int .i64 k ∧ LW s fc w g c L b7 b8 b9 wr)
          case atStart => exact ⟨0, by omega, rfl, HW.out⟩
          case round =>
            obtain ⟨k2, hkg2, rfl, hlw2⟩ := hrel
            have HV : Hid (LW s fc w g c L b7 b8 b9 wr) := hlw2
            clear hlw2 HW
            cases gk with
            | zero =>
              obtain rfl : k2 = s.size := by omega
              go_wp2
              go_ret
              exact ⟨rfl, HV.out.below⟩
            | succ g3 =>
              have hk2 : k2 < s.size := by omega
              obtain ⟨x, hx⟩ : ∃ x, (s[k2]'hk2).toNat = x := ⟨_, rfl⟩
              have hxx : bt s k2 = x := by have := bt_eq s k2 hk2; rw [hx] at this; exact this
              have hx2 : x < 256 := by rw [← hxx]; exact bt_lt s k2
              have hst : L[k2]? = some ⟨lit fc x, false, 0⟩ := by
                rw [HL.out]
                simp [lits, hk2, hxx]
              have HST : Hid (L[k2]? = some ⟨lit fc x, false, 0⟩) := hst
              clear hxx hst HL HSB
              obtain ⟨t0, ht0⟩ : ∃ t0, S4.zero.add x = t0 := ⟨_, rfl⟩
              have HT0 : Hid (S4.zero.add x = t0) := ht0
              clear ht0
              go_wp2_with fail
              refine (bitWith_lit S4.zero S4.ok_zero x hx2 t0 HT0.out _).mono ?_
              rintro e w6 ⟨rfl, m6⟩
              obtain ⟨W6, hW6⟩ : ∃ W6, w6.alloc (.cells #[.int .u64 t0.a, .int .u64 t0.b, .int .u64 t0.c, .int .u64 t0.d] 23) = W6 := ⟨_, rfl⟩
              have HV6 : Hid (LW s fc w g c L b7 b8 b9 W6) := by rw [← hW6]; exact HV.out.made (m6.alloc _)
              have HT6 : Hid (HSet W6 w6.heap.size 23 t0) := by rw [← hW6]; exact hset_new w6 23 t0
              have HM6 : Hid (Made wr W6 ∧ wr.heap.size ≤ w6.heap.size) := by rw [← hW6]; exact ⟨m6.alloc _, m6.size⟩
              clear m6
              go_upto_region 38 with fail
              first | rw [hW6] | skip
              clear hW6
              have hki2 : (k2 : Int) < (s.size : Int) := by omega
              cases fc with
              | false =>
                have hl : lit false x = t0 := by rw [← HT0.out]; rfl
                rw [hl] at HST
                obtain ⟨x0, x1, x2, x3, x4, x5⟩ := HV6.out.cells HST.out
                obtain ⟨y0, y1, y2, y3⟩ := HT6.out.words
                have E1 := fun w' => eq23_same w' t0
                clear HV HM6 hl
                go_upto_region 40 with fail
                go_quiet (fail)
                go_wp2
                go_roundg g3
                case measure => omega
                case rel => exact ⟨k2 + 1, by omega, by go_num, HV6.out.made ⟨rfl, rfl, rfl, Nat.le_refl _, fun _ _ => rfl⟩⟩
              | true =>
                obtain ⟨y0, y1, y2, y3⟩ := HT6.out.words
                go_wp2_with fail
                refine (foldSet_any t0 (by rw [← HT0.out]; exact S4.ok_add S4.ok_zero x hx2) _).mono ?_
                rintro e w7 ⟨⟨t, hf, rfl⟩, m7⟩
                have hl : lit true x = t := (FoldB.lit hx2 (by rw [HT0.out]; exact hf)).symm
                rw [hl] at HST
                clear hl hf y0 y1 y2 y3
                have HT7 : Hid (HSet w7 w6.heap.size 23 t0) := HT6.out.made m7
                obtain ⟨f0, f1, f2, f3⟩ := HT7.out.frees
                obtain ⟨y0, y1, y2, y3⟩ := HT7.out.words
                obtain ⟨W8, hW8⟩ : ∃ W8, (((w7.setCell ⟨w6.heap.size, 0, none⟩ (.int .u64 t.a)).setCell ⟨w6.heap.size, 1, none⟩ (.int .u64 t.b)).setCell ⟨w6.heap.size, 2, none⟩ (.int .u64 t.c)).setCell ⟨w6.heap.size, 3, none⟩ (.int .u64 t.d) = W8 := ⟨_, rfl⟩
                have HV8 : Hid (LW s true w g c L b7 b8 b9 W8) := by rw [← hW8]; exact HV.out.made (made_store4 (HM6.out.1.trans m7) HM6.out.2 _ _ _ _)
                have HT8 : Hid (HSet W8 w6.heap.size 23 t) := by rw [← hW8]; exact HT7.out.store4 t
                clear m7 HV HM6 HT6 HT7 HV6
                unfold aggOf
                go_upto_region 40 with fail
                first | rw [hW8] | skip
                clear hW8 f0 f1 f2 f3 y0 y1 y2 y3
                obtain ⟨x0, x1, x2, x3, x4, x5⟩ := HV8.out.cells HST.out
                obtain ⟨y0, y1, y2, y3⟩ := HT8.out.words
                have E1 := fun w' => eq23_same w' t
                go_quiet (fail)
                go_wp2
                go_roundg g3
                case measure => omega
                case rel => exact ⟨k2 + 1, by omega, by go_num, HV8.out.made ⟨rfl, rfl, rfl, Nat.le_refl _, fun _ _ => rfl⟩⟩
      | succ g2 =>
        have hk : k < L.length := by omega
        obtain ⟨st, hst⟩ : ∃ st, L[k]? = some st := ⟨_, List.getElem?_eq_getElem hk⟩
        have HOK : Hid (OkAt L k st) := HW.out.ci.good k st hst
        obtain ⟨s0, s1, s2, s3, s4, s5⟩ := HW.out.cells hst
        obtain ⟨set, lp, fk⟩ := st
        have hki : (k : Int) < (L.length : Int) := by omega
        go_upto_region 17 with fail
        obtain ⟨W, hW⟩ : ∃ W, wr.alloc (.cells #[.int .u64 set.a, .int .u64 set.b, .int .u64 set.c, .int .u64 set.d, .bool lp, .int .i64 fk] 44) = W := ⟨_, rfl⟩
        rw [hW]
        have HQ : Hid (HStep W wr.heap.size ⟨set, lp, fk⟩) := by rw [← hW]; exact step_new wr ⟨set, lp, fk⟩
        obtain ⟨q0, q1, q2, q3, q4, q5⟩ := HQ.out.words
        have HW2 : Hid (LW s fc w g c L b7 b8 b9 W) := by rw [← hW]; exact HW.out.made (made_one _ _)
        clear hW HW s0 s1 s2 s3 s4 s5 hst
        cases lp with
        | true =>
          have h2 := HOK.out.2.1 rfl
          obtain rfl : fk = 0 := h2.1
          obtain ⟨a0, a1, a2, a3⟩ := HW2.out.al.words
          obtain ⟨n0, n1, n2, n3⟩ := HW2.out.ns.words
          rcases h2.2 with h3 | h3
          · have h3' : set = S4.full := h3
            subst h3'
            clear h2 h3
            have E1 := eq23_same W S4.full
            go_wp2
            go_roundg g2
            case measure => omega
            case rel => exact ⟨k + 1, by omega, by go_num, HW2.out⟩
          · have h3' : set = S4.notSlash := h3
            subst h3'
            clear h2 h3
            have E1 := eq23_ne W S4.notSlash S4.full ns_ne
            have E2 := eq23_same W S4.notSlash
            go_wp2
            go_roundg g2
            case measure => omega
            case rel => exact ⟨k + 1, by omega, by go_num, HW2.out⟩
        | false =>
          by_cases hf : fk = 0
          · subst hf
            cases hh : set.has 47 with
            | false =>
              go_wp2_with fail
              refine (bitHas_lit set HOK.out.1 47 (by omega) false hh _).mono ?_
              rintro e w5 ⟨rfl, m5⟩
              have HW3 : Hid (LW s fc w g c L b7 b8 b9 w5) := HW2.out.made m5
              clear m5 HW2 q0 q1 q2 q3 q4 q5
              go_wp2
              go_roundg g2
              case measure => omega
              case rel => exact ⟨k + 1, by omega, by go_num, HW3.out⟩
            | true =>
              have h3 : set = S4.slash := HOK.out.2.2.2 rfl rfl hh
              subst h3
              go_wp2_with fail
              refine (bitHas_lit S4.slash HOK.out.1 47 (by omega) true hh _).mono ?_
              rintro e w5 ⟨rfl, m5⟩
              have HW3 : Hid (LW s fc w g c L b7 b8 b9 w5) := HW2.out.made m5
              obtain ⟨l0, l1, l2, l3⟩ := HW3.out.sl.words
              clear q0 q1 q2 q3 q4 q5
              obtain ⟨q0, q1, q2, q3, q4, q5⟩ := (HQ.out.made m5).words
              have E1 := eq23_same w5 S4.slash
              clear m5 HW2
              go_wp2
              go_roundg g2
              case measure => omega
              case rel => exact ⟨k + 1, by omega, by go_num, HW3.out⟩
          · have h2 := HOK.out.2.2.1 rfl hf
            have h3 : set = S4.zero := h2.2.1
            have h4 : fk = k + 3 := h2.1
            subst h3
            subst h4
            obtain ⟨x0, x1, x2, x3, x4, x5⟩ := HW2.out.cells h2.2.2.1
            have hk3 : k + 2 < L.length := (List.getElem?_eq_some_iff.1 h2.2.2.2).1
            have HY : Hid (L[k + 2]? = some ⟨S4.slash, false, 0⟩) := h2.2.2.2
            have E1 : (Op.equalIn 10000 23 (.agg #[.int .u64 S4.zero.a, .int .u64 S4.zero.b, .int .u64 S4.zero.c, .int .u64 S4.zero.d]) (.agg #[.int .u64 0, .int .u64 0, .int .u64 0, .int .u64 0])).run Try.prog W = .ok true W := eq23_same W S4.zero
            clear h2 HOK
            go_upto_region 24 with fail
            obtain ⟨W1, hW1⟩ : ∃ W1, W.alloc (.cells #[.int .u64 S4.full.a, .int .u64 S4.full.b, .int .u64 S4.full.c, .int .u64 S4.full.d, .bool true, .int .i64 0] 44) = W1 := ⟨_, rfl⟩
            rw [hW1]
            have HQ1 : Hid (HStep W1 W.heap.size ⟨S4.full, true, 0⟩) := by rw [← hW1]; exact step_new W ⟨S4.full, true, 0⟩
            have HW3 : Hid (LW s fc w g c L b7 b8 b9 W1) := by rw [← hW1]; exact HW2.out.made (made_one _ _)
            clear hW1 x0 x1 x2 x3 x4 x5 q0 q1 q2 q3 q4 q5 E1 HW2
            obtain ⟨x0, x1, x2, x3, x4, x5⟩ := HW3.out.cells HY.out
            go_upto_region 25 with fail
            obtain ⟨W2, hW2⟩ : ∃ W2, W1.alloc (.cells #[.int .u64 S4.slash.a, .int .u64 S4.slash.b, .int .u64 S4.slash.c, .int .u64 S4.slash.d, .bool false, .int .i64 0] 44) = W2 := ⟨_, rfl⟩
            rw [hW2]
            have HQ2 : Hid (HStep W2 W1.heap.size ⟨S4.slash, false, 0⟩) := by rw [← hW2]; exact step_new W1 ⟨S4.slash, false, 0⟩
            have HQ3 : Hid (HStep W2 W.heap.size ⟨S4.full, true, 0⟩) := by rw [← hW2]; exact HQ1.out.made (made_one _ _)
            have HW4 : Hid (LW s fc w g c L b7 b8 b9 W2) := by rw [← hW2]; exact HW3.out.made (made_one _ _)
            clear hW2 x0 x1 x2 x3 x4 x5 HW3
            obtain ⟨q0, q1, q2, q3, q4, q5⟩ := HQ2.out.words
            obtain ⟨p0, p1, p2, p3, p4, p5⟩ := HQ3.out.words
            obtain ⟨a0, a1, a2, a3⟩ := HW4.out.al.words
            obtain ⟨l0, l1, l2, l3⟩ := HW4.out.sl.words
            have E1 := eq23_same W2 S4.full
            have E2 := eq23_same W2 S4.slash
            go_wp2
            go_roundg g2
            case measure => omega
            case rel => exact ⟨k + 1, by omega, by go_num, HW4.out⟩
  · have HK : Hid (∃ k, k < s.size ∧ (bt s k = 91 ∨ bt s k = 92)) := hk
    clear hk
    go_wp2_with fail
    refine (bracket_yes s hs HK.out _).mono ?_
    rintro e w2 ⟨rfl, hw2⟩
    rw [hw2]
    clear hw2
    go_wp2
    go_ret
    exact ⟨rfl, HB.out⟩

set_option maxRecDepth 1000000 in
set_option maxHeartbeats 1000000 in
theorem law_any (s : ByteArray) (hm : s.size ≤ maxLen) (fc : Bool) (w : World) :
    Calls Try.prog 11 #[.string s, .bool fc] w fun e w' => e = .returned (.bool true) ∧ Below w.heap.size w w' := by
  by_cases h1 : s.size ≤ 65536
  · exact law_big s h1 fc w
  · by_cases h2 : s.size ≤ 1048576
    · go_enter Try.func11, Try.ntmps11
      go_wp2_with fail
      refine (bytes30_yes s fc h2 _).mono ?_
      rintro e w0 ⟨rfl, hw0⟩
      rw [hw0]
      clear hw0
      go_wp2
      go_ret
      exact ⟨rfl, Below.refl _ _⟩
    · go_enter Try.func11, Try.ntmps11
      go_wp2_with fail
      refine (bytes30_no s fc hm (by omega) _).mono ?_
      rintro e w0 ⟨rfl, hw0⟩
      rw [hw0]
      clear hw0
      go_wp2
      go_ret
      exact ⟨rfl, Below.refl _ _⟩

end Go.Proofs.Qxb6602360a
