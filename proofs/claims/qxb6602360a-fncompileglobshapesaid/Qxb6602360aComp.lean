/-
  WALK: compileGlob, its way for '*' apart (Star).
-/
import Derived.Test.Qxb6602360aStar
namespace Go.Proofs.Qxb6602360a
open Go.RowKit Plain

set_option maxRecDepth 1000000 in
set_option maxHeartbeats 8000000 in
theorem comp_any (s : ByteArray) (hs : s.size ≤ 65536) (fc : Bool) (w : World) :
    Calls Try.prog 38 #[.string s, .bool fc] w fun e w' => RetComp s fc (w.heap.size + 5) e w' ∧ Below w.heap.size w w' := by
  go_enter Try.func38, Try.ntmps38
  go_wp2
  go_loopg [8, 20] 256 (fun g _ v wr => ∃ (b : Nat) (t : S4), b + g = 256 ∧ v = .int .i64 b ∧ BelowB t b ∧ HSet wr (w.heap.size + 2) 45 t ∧ HSet wr (w.heap.size + 1) 45 S4.zero ∧ wr.heap[w.heap.size]? = some (.cells #[.bool fc] 4 (0, 0)) ∧ wr.heap.size = w.heap.size + 3 ∧ Below w.heap.size w wr)
  case atStart =>
    refine ⟨0, S4.zero, by omega, rfl, BelowB.zero, ?_, ?_, ?_, by simp, (((Below.refl _ _).alloc (Nat.le_refl _) _).alloc (by simp) _).alloc (by simp; omega) _⟩
    · have := hset_new ((w.alloc (.cells #[.bool fc] 4)).alloc (.cells (cells4 S4.zero) 45)) 45 S4.zero
      have hz : ((w.alloc (.cells #[.bool fc] 4)).alloc (.cells (cells4 S4.zero) 45)).heap.size = w.heap.size + 2 := by simp
      rw [hz] at this
      exact this
    · have := hset_new (w.alloc (.cells #[.bool fc] 4)) 45 S4.zero
      have hz : (w.alloc (.cells #[.bool fc] 4)).heap.size = w.heap.size + 1 := by simp
      rw [hz] at this
      unfold HSet at this ⊢
      rw [heap_alloc_old _ _ _ (by simp)]
      exact this
    · rw [heap_alloc_old _ _ _ (by simp; omega), heap_alloc_old _ _ _ (by simp)]
      exact heap_alloc_new w _
  case round =>
    obtain ⟨b, t, hbg, rfl, hbb, hh, hz, hfb, hsz, hbl⟩ := hrel
    have HB : Hid (BelowB t b) := hbb
    have HH : Hid (HSet wr (w.heap.size + 2) 45 t) := hh
    have HZ : Hid (HSet wr (w.heap.size + 1) 45 S4.zero) := hz
    have HF : Hid (wr.heap[w.heap.size]? = some (.cells #[.bool fc] 4 (0, 0))) := hfb
    have HL : Hid (Below w.heap.size w wr) := hbl
    have HS : Hid (wr.heap.size = w.heap.size + 3) := hsz
    clear hbb hh hz hfb hbl hsz
    cases gk with
    | succ g =>
      have hb : b < 256 := by omega
      go_wp2_with (go_at_call 51; refine (add_any (w.heap.size + 2) 45 t HB.out.1 b hb _ HH.out).mono ?_; rintro e w2 ⟨rfl, h2, u2⟩)
      go_roundg g
      case measure => omega
      case rel =>
        refine ⟨b + 1, _, by omega, by go_num, HB.out.add hb, h2, ?_, ?_, ?_, ?_⟩
        · unfold HSet; rw [u2.grown.block _ (by rw [HS.out]; omega) (by simp)]; exact HZ.out
        · rw [u2.grown.block _ (by rw [HS.out]; omega) (by simp)]; exact HF.out
        · rw [u2.size]; exact HS.out
        · exact HL.out.trans ⟨u2.grown.os, u2.grown.tape, u2.grown.output, u2.grown.size, fun k hk => u2.grown.block k (by rw [HS.out]; omega) (by simp; omega)⟩
    | zero =>
      obtain rfl : b = 256 := by omega
      obtain rfl : t = S4.full := HB.out.full
      have a0 := HH.out.words
      obtain ⟨c0, c1, c2, c3⟩ := HH.out.words
      obtain ⟨r0, r1, r2, r3⟩ := HZ.out.words
      obtain ⟨f0, f1, f2, f3⟩ := HZ.out.frees
      clear a0
      go_wp2_with fail
      obtain ⟨w3, hw3⟩ : ∃ w3, ((((wr.setCell ⟨w.heap.size + 1, 0, none⟩ (.int .u64 S4.full.a)).setCell ⟨w.heap.size + 1, 1, none⟩ (.int .u64 S4.full.b)).setCell ⟨w.heap.size + 1, 2, none⟩ (.int .u64 S4.full.c)).setCell ⟨w.heap.size + 1, 3, none⟩ (.int .u64 S4.full.d)) = w3 := ⟨_, rfl⟩
      have P3 : Hid (HSet w3 (w.heap.size + 1) 45 S4.full ∧ HSet w3 (w.heap.size + 2) 45 S4.full ∧ w3.heap[w.heap.size]? = some (.cells #[.bool fc] 4 (0, 0)) ∧ w3.heap.size = w.heap.size + 3 ∧ Below w.heap.size w w3) := by
        rw [← hw3]
        refine ⟨HZ.out.store4 S4.full, ?_, ?_, by simp [World.setCell]; exact HS.out, below_store4 HL.out (by omega) _ _ _ _⟩
        · unfold HSet
          rw [Below.heap_setCell _ _ _ _ (by simp), Below.heap_setCell _ _ _ _ (by simp), Below.heap_setCell _ _ _ _ (by simp), Below.heap_setCell _ _ _ _ (by simp)]
          exact HH.out
        · rw [Below.heap_setCell _ _ _ _ (by simp), Below.heap_setCell _ _ _ _ (by simp), Below.heap_setCell _ _ _ _ (by simp), Below.heap_setCell _ _ _ _ (by simp)]
          exact HF.out
      rw [hw3]
      clear hw3 HH HZ HF HL HS HB c0 c1 c2 c3 r0 r1 r2 r3 f0 f1 f2 f3
      refine (remove_any (w.heap.size + 1) 45 S4.full S4.ok_full 47 (by omega) _ P3.out.1).mono ?_
      rintro e w4 ⟨rfl, h4, u4⟩
      have hz4 : w4.heap.size = w.heap.size + 3 := by rw [u4.size]; exact P3.out.2.2.2.1
      have P4 : Hid (HSet w4 (w.heap.size + 1) 45 S4.notSlash ∧ HSet w4 (w.heap.size + 2) 45 S4.full ∧ w4.heap[w.heap.size]? = some (.cells #[.bool fc] 4 (0, 0)) ∧ Below w.heap.size w w4) := by
        refine ⟨h4, ?_, ?_, P3.out.2.2.2.2.trans ⟨u4.grown.os, u4.grown.tape, u4.grown.output, u4.grown.size, fun k hk => u4.grown.block k (by rw [P3.out.2.2.2.1]; omega) (by simp; omega)⟩⟩
        · unfold HSet; rw [u4.grown.block _ (by rw [P3.out.2.2.2.1]; omega) (by simp)]; exact P3.out.2.1
        · rw [u4.grown.block _ (by rw [P3.out.2.2.2.1]; omega) (by simp)]; exact P3.out.2.2.1
      clear h4 u4 P3
      have HC : Hid (CW fc w ((w4.alloc (.cells #[.slice none 0 0] 51)).alloc (.cells #[oneVal (w.heap.size + 3)] 63)) (.slice none 0 0) []) := cw_start fc w w4 hz4 P4.out.1 P4.out.2.1 P4.out.2.2.1 P4.out.2.2.2
      clear P4
      go_wp2
      clear hz4
      go_loopg [12] s.size (fun g vi wr => ∃ (i : Nat) (v : Value) (L : List Step), i + g = s.size ∧ vi = .int .i64 i ∧ CI fc s i L ∧ CW fc w wr v L)
      case atStart => exact ⟨0, _, [], by omega, rfl, CI.start fc s, HC.out⟩
      case round =>
        obtain ⟨i, v, L, hig, rfl, hci, hcw⟩ := hrel
        have HI : Hid (CI fc s i L) := hci
        have HW : Hid (CW fc w wr v L) := hcw
        clear hci hcw HC
        cases gk with
        | zero =>
          obtain rfl : i = s.size := by omega
          obtain ⟨ao, m, c, rfl⟩ := ownsRow_form HW.out.owns.row
          have hc9 := cell_of_one HW.out.owns.var
          go_wp2
          go_ret2
          exact ⟨Or.inl ⟨ao, m, c, L, rfl, HW.out.owns.row, HI.out⟩, HW.out.below⟩
        | succ g =>
          have hi : i < s.size := by omega
          have hlen : L.length ≤ 65536 := by have := HI.out.len; omega
          obtain ⟨x, hx⟩ : ∃ x, (s[i]'hi).toNat = x := ⟨_, rfl⟩
          have HX : Hid (bt s i = x) := by have := bt_eq s i hi; rw [hx] at this; exact this
          have hx8 : x < 256 := by rw [← hx]; exact (s[i]'hi).toNat_lt
          by_cases h42 : x = 42
          · subst h42
            go_upto_if 44 with fail
            refine wp_cond_true rfl ?_
            refine star_any s hs fc w wr i v L HI HW hi hlen hx HX _ _ _ _ _ _ _ _ _ _ _ _ _ _ _ _ _ _ _ _ _ _ _ _ _ _ _ _ _ _ _ _ _ _ _ _ _ _ _ _ _ _ _ _ _ _ _ _ _ _ _ _ _ _ _ _ _ _ _ _ _ _ _ _ _ _ _ _ _ _ _ _ _ _ _ _ _ _ _ _ _ _ _ _ _ _ _ _ _ _ _ _ _ _ _ _ _ _ _ _ _ _ _ _ _ _ _ _ _ _ _ _ _ _ _ _ _ _ _ _ _ _ _ _ _ _ _ _ _ _ _ _ _ _ _ _ _ _ _ _ _ _ _ _ _ _ _ _ _ _ _ _ _ _ _ _ _ _ _ _ _ _ _ _ _ _ ?_
            intro j vj v2 L2 w2 u14 u15 u16 u46 u47 u48 u49 u50 u51 u52 u53 u54 u55 u56 u57 u58 u59 u60 u61 u62 u63 u64 u65 u66 u67 u68 u69 u70 u71 u72 u73 u74 u75 u76 u77 u78 u79 u80 u81 u82 u83 u84 u85 u86 u87 u88 u89 u90 u91 u92 u93 u94 u95 u96 u97 u98 u99 u100 u101 u102 u103 u104 u105 u106 u107 u108 u109 u110 u111 u112 u113 u114 u115 u116 u117 u118 u119 u120 u121 u122 u123 u124 u125 u126 hvj hij hjs hci2 hcw2
            subst hvj
            have HI2 : Hid (CI fc s j L2) := hci2
            have HW2 : Hid (CW fc w w2 v2 L2) := hcw2
            clear hci2 hcw2 HI HW HX
            go_wp2
            go_roundg (s.size - j)
            case measure => omega
            case rel => exact ⟨j, v2, L2, by omega, rfl, HI2.out, HW2.out⟩
          · have e42 : ((x : Int) == 42) = false := by rw [beq_eq_false_iff_ne]; omega
            by_cases h63 : x = 63
            · skip
              subst h63
              clear h42
              have ho : wr.cell? ⟨w.heap.size + 3 + 1, 0, none⟩ = some (oneVal (w.heap.size + 3)) := cell_of_one HW.out.one
              unfold oneVal at ho
              obtain ⟨c0, c1, c2, c3⟩ := HW.out.ns.words
              go_wp2_with fail
              refine (one_any' S4.notSlash (w.heap.size + 5) (w.heap.size + 3) v L (by omega) _ HW.out.owns).mono ?_
              rintro e w2 ⟨rfl, ⟨v2, h2⟩, g2⟩
              have HW2 : Hid (CW fc w w2 v2 (L ++ [⟨S4.notSlash, false, 0⟩])) := HW.out.grew h2 g2
              have HI2 : Hid (CI fc s (i + 1) (L ++ [⟨S4.notSlash, false, 0⟩])) := HI.out.special (by omega) (by omega) (by rw [HX.out]; omega) ns_ok (fun a => (by cases a)) (fun _ b => by rw [ns_no] at b; cases b)
              clear h2 g2 ho c0 c1 c2 c3
              go_wp2
              go_roundg g
              case measure => omega
              case rel => exact ⟨i + 1, v2, _, by omega, by go_num, HI2.out, HW2.out⟩
            · have e63 : ((x : Int) == 63) = false := by rw [beq_eq_false_iff_ne]; omega
              by_cases h91 : x = 91
              · skip
                subst h91
                clear h42 h63
                have hfc : wr.cell? ⟨w.heap.size, 0, none⟩ = some (.bool fc) := cell_of_one HW.out.fold
                obtain ⟨sx, hsx⟩ : ∃ sx, s.extract (i + 1) s.size = sx := ⟨_, rfl⟩
                have hsz : sx.size = s.size - (i + 1) := by rw [← hsx, size_extract]; omega
                have hsz2 : sx.size ≤ 65536 := by omega
                have hwl : w.heap.size < wr.heap.size := lt_of_block HW.out.fold
                have hi' : (i : Int) + 1 ≤ (s.size : Int) := by omega
                have hwi : IntKind.i64.wrap ((i : Int) + 1) = (i : Int) + 1 := wrap_small _ (by omega) (by omega)
                have hsl : ∀ W, (Instr.slice 9 (.string s) (some (.int .i64 ((i : Int) + 1))) none none).run Try.prog W = .ok (.string sx) W := fun W => by rw [← hsx]; exact slice_from s i (by omega) W
                go_upto_region 36 with fail
                go_cut [17, 18, 19] (fun p n k w1 => ∃ (t : S4) (nn : Nat) (ok : Bool) (b : Nat), p = .pointer (some ⟨b, 0, none⟩) ∧ n = .int .i64 nn ∧ k = .bool ok ∧ HSet w1 b 45 t ∧ (ok = true → 1 ≤ nn ∧ nn ≤ sx.size ∧ t.has 47 = false) ∧ t.ok ∧ Made wr w1)
                case first =>
                  clear HI HX hlen
                  have hst := store4_new
                  go_region_with (go_at_call 35; refine (parse_any sx hsz2 fc _).mono ?_; rintro e w2 ⟨⟨t, n, ok, ht, hok, rfl⟩, hb⟩; first | (have hz5 : HSet w2 wr.heap.size 45 S4.zero := zero_new hb; obtain ⟨w5, hst5, h5, u5⟩ := store4_at hz5 t) | skip)
                  all_goals
                    go_wp2
                    go_meet
                    case rel =>
                      first
                        | exact ⟨t, n, ok, _, rfl, rfl, rfl, h5, hok, ht, (((((Made.refl wr).alloc _).drew).trans (made_below hb)).upd (Nat.le_refl _) u5)⟩
                        | exact ⟨t, n, ok, _, rfl, rfl, rfl, hset_new w2 45 t, hok, ht, (((made_drew wr).trans (made_below hb)).alloc _)⟩
                case rest =>
                  obtain ⟨t, nn, ok, b, rfl, rfl, rfl, hset, hok, hto, hmade⟩ := hcut
                  have HS : Hid (HSet wc b 45 t) := hset
                  have HK : Hid (ok = true → 1 ≤ nn ∧ nn ≤ sx.size ∧ t.has 47 = false) := hok
                  have HT : Hid t.ok := hto
                  have HWc : Hid (CW fc w wc v L) := HW.out.made hmade
                  clear hset hok hto hmade HW hfc hwl hsl hsx
                  cases ok with
                  | false =>
                    clear HK HS HT
                    go_wp2
                    go_ret2
                    exact ⟨Or.inr ⟨rfl, i, hi, by rw [HX.out]; omega⟩, HWc.out.below⟩
                  | true =>
                    obtain ⟨hn1, hn2, hn3⟩ := HK.out (by trivial)
                    have HN : Hid (t.has 47 = false) := hn3
                    clear hn3 HK
                    have ho : wc.cell? ⟨w.heap.size + 3 + 1, 0, none⟩ = some (oneVal (w.heap.size + 3)) := cell_of_one HWc.out.one
                    unfold oneVal at ho
                    obtain ⟨c0, c1, c2, c3⟩ := HS.out.words
                    go_wp2_with fail
                    refine (one_any' t (w.heap.size + 5) (w.heap.size + 3) v L (by omega) _ HWc.out.owns).mono ?_
                    rintro e w2 ⟨rfl, ⟨v2, h2⟩, g2⟩
                    have HW2 : Hid (CW fc w w2 v2 (L ++ [⟨t, false, 0⟩])) := HWc.out.grew h2 g2
                    have HI2 : Hid (CI fc s (i + (1 + nn)) (L ++ [⟨t, false, 0⟩])) := HI.out.special (by omega) (by omega) (by rw [HX.out]; omega) HT.out (fun a => (by cases a)) (fun _ c => by rw [HN.out] at c; cases c)
                    clear h2 g2 ho c0 c1 c2 c3 HS
                    go_wp2
                    go_roundg (g - nn)
                    case measure => omega
                    case rel => exact ⟨i + (1 + nn), v2, _, by omega, by go_num, HI2.out, HW2.out⟩
              · have e91 : ((x : Int) == 91) = false := by rw [beq_eq_false_iff_ne]; omega
                by_cases h92 : x = 92
                · skip
                  subst h92
                  clear h42 h63 h91
                  by_cases hend : i + 1 = s.size
                  · have he : (((i : Int) + 1) == (s.size : Int)) = true := by rw [beq_iff_eq]; omega
                    clear hend
                    go_wp2
                    go_ret2
                    exact ⟨Or.inr ⟨rfl, i, hi, by rw [HX.out]; omega⟩, HW.out.below⟩
                  · have he : (((i : Int) + 1) == (s.size : Int)) = false := by rw [beq_eq_false_iff_ne]; omega
                    have hi1 : i + 1 < s.size := by omega
                    obtain ⟨y, hy⟩ : ∃ y, (s[i + 1]'hi1).toNat = y := ⟨_, rfl⟩
                    have hy8 : y < 256 := by rw [← hy]; exact (s[i + 1]'hi1).toNat_lt
                    go_wp2_with fail
                    refine (lit_any y hy8 fc _ _ (w.heap.size + 5) (w.heap.size + 3) v L (by omega) _ HW.out.owns HW.out.fold HW.out.one).mono ?_
                    rintro e w2 ⟨rfl, ⟨v2, h2⟩, g2⟩
                    have HW2 : Hid (CW fc w w2 v2 (L ++ [⟨lit fc y, false, 0⟩])) := HW.out.grew h2 g2
                    have HI2 : Hid (CI fc s (i + 2) (L ++ [⟨lit fc y, false, 0⟩])) := HI.out.special (by omega) (by omega) (by rw [HX.out]; omega) (ok_lit fc y hy8) (fun a => (by cases a)) (fun _ b => lit_slash fc y hy8 b)
                    clear h2 g2
                    go_wp2
                    go_roundg (g - 1)
                    case measure => omega
                    case rel => exact ⟨i + 2, v2, _, by omega, by go_num, HI2.out, HW2.out⟩
                · skip
                  have e92 : ((x : Int) == 92) = false := by rw [beq_eq_false_iff_ne]; omega
                  clear h42 h63 h91 h92
                  go_wp2_with fail
                  refine (lit_any x hx8 fc _ _ (w.heap.size + 5) (w.heap.size + 3) v L (by omega) _ HW.out.owns HW.out.fold HW.out.one).mono ?_
                  rintro e w2 ⟨rfl, ⟨v2, h2⟩, g2⟩
                  have HW2 : Hid (CW fc w w2 v2 (L ++ [⟨lit fc x, false, 0⟩])) := HW.out.grew h2 g2
                  have HI2 : Hid (CI fc s (i + 1) (L ++ [⟨lit fc x, false, 0⟩])) := by have := HI.out.byte hi; rw [HX.out] at this; exact this
                  clear h2 g2
                  go_wp2
                  go_roundg g
                  case measure => omega
                  case rel => exact ⟨i + 1, v2, _, by omega, by go_num, HI2.out, HW2.out⟩

end Go.Proofs.Qxb6602360a
