/-
  WALK: compileGlob.
-/
import Derived.Test.Qxb6602360aShape
import Derived.Laws.EntriesVeiled
import Derived.Laws.Strings3
import Derived.Deep.WholeRow
import Derived.Deep.RegionWith
import Derived.Deep.RegionLaw
namespace Go.Proofs.Qxb6602360a
open Go.RowKit Plain

/-- The compiler's memory. -/
structure CW (fc : Bool) (w wr : World) (v : Value) (L : List Step) : Prop where
  fold : wr.heap[w.heap.size]? = some (.cells #[.bool fc] 4 (0, 0))
  ns : HSet wr (w.heap.size + 1) 45 S4.notSlash
  al : HSet wr (w.heap.size + 2) 45 S4.full
  owns : Owns wr (w.heap.size + 5) (w.heap.size + 3) v L
  one : wr.heap[w.heap.size + 4]? = some (.cells #[oneVal (w.heap.size + 3)] 63 (0, 0))
  below : Below w.heap.size w wr

theorem CW.grew {fc : Bool} {w wr w' : World} {v v' : Value} {L L' : List Step} (h : CW fc w wr v L) (ho : Owns w' (w.heap.size + 5) (w.heap.size + 3) v' L') (g : Grew (w.heap.size + 5) (w.heap.size + 3) wr w') : CW fc w w' v' L' := by
  refine ⟨?_, ?_, ?_, ho, ?_, h.below.trans ⟨g.os, g.tape, g.output, g.size, fun k hk => g.block k (by omega) (by omega)⟩⟩
  · rw [g.block _ (by omega) (by omega)]; exact h.fold
  · unfold HSet; rw [g.block _ (by omega) (by omega)]; exact h.ns
  · unfold HSet; rw [g.block _ (by omega) (by omega)]; exact h.al
  · rw [g.block _ (by omega) (by omega)]; exact h.one
theorem CW.made {fc : Bool} {w wr w' : World} {v : Value} {L : List Step} (h : CW fc w wr v L) (m : Made wr w') : CW fc w w' v L :=
  h.grew (h.owns.made m) (m.grew h.owns.base_le)

/-- The set of the bytes below b. -/
def BelowB (t : S4) (b : Nat) : Prop := t.ok ∧ ∀ y, y < 256 → t.has y = decide (y < b)
theorem BelowB.zero : BelowB S4.zero 0 := ⟨S4.ok_zero, fun y _ => by rw [S4.has_zero]; simp⟩
theorem BelowB.add {t : S4} {b : Nat} (h : BelowB t b) (hb : b < 256) : BelowB (t.add b) (b + 1) := by
  refine ⟨S4.ok_add h.1 b hb, fun y hy => ?_⟩
  rw [S4.has_add _ _ _ hb hy, h.2 y hy, ← Bool.decide_or, decide_eq_decide]
  omega
theorem BelowB.full {t : S4} (h : BelowB t 256) : t = S4.full :=
  S4.ext_has h.1 S4.ok_full fun y hy => by rw [h.2 y hy, S4.has_full]; exact decide_eq_true hy

theorem cells4_one (t : S4) : ∀ v ∈ (cells4 t).toList, v.oneCell' = true := by
  intro v hv
  simp [cells4] at hv
  rcases hv with rfl | rfl | rfl | rfl <;> rfl
theorem store4_at {W : World} {b : Nat} {z : S4} (h : HSet W b 45 z) (t : S4) : ∃ W', (storeCells ⟨b, 0, none⟩ (cells4 t).toList).run Try.prog W = .ok () W' ∧ HSet W' b 45 t ∧ Upd b W W' := by
  have hlt := h.lt
  have h' : W.heap[b] = .cells (cells4 z) 45 (0, 0) := by unfold HSet at h; simpa [Array.getElem?_eq_getElem hlt] using h
  refine ⟨W.setRow b (cells4 t), ?_, ?_, ⟨rfl, rfl, rfl, ?_, fun k hk hn => ?_⟩, ?_⟩
  · have := run_storeCells_from (P := Try.prog) b 45 (cells4 t).toList 0 (cells4 z) W h (by rfl) (cells4_one t)
    simpa using this
  · show (W.heap.modify b _)[b]? = _
    rw [Array.getElem?_eq_getElem (by simpa using hlt), Array.getElem_modify_self, h']
  · show W.heap.size ≤ (W.heap.modify b _).size
    simp
  · show (W.heap.modify b _)[k]? = _
    rw [Array.getElem?_modify, if_neg (fun e => hn (by rw [e]))]
  · show (W.heap.modify b _).size = _
    simp
theorem store4_new (W : World) (t : S4) : (storeCells ⟨W.heap.size, 0, none⟩ (cells4 t).toList).run Try.prog (W.alloc (.cells #[.int .u64 0, .int .u64 0, .int .u64 0, .int .u64 0] 45)) = .ok () (W.alloc (.cells (cells4 t) 45)) :=
  run_storeCells_new (P := Try.prog) W 45 #[.int .u64 0, .int .u64 0, .int .u64 0, .int .u64 0] (cells4 t) (by kernel_rfl) rfl (by rw [Array.all_eq_true_iff_forall_mem]; intro v hv; exact cells4_one t v (Array.mem_toList_iff.2 hv))
theorem zero_new {wr w2 : World} (hb : Below ((wr.alloc (.cells #[.int .u64 0, .int .u64 0, .int .u64 0, .int .u64 0] 45)).drew).heap.size ((wr.alloc (.cells #[.int .u64 0, .int .u64 0, .int .u64 0, .int .u64 0] 45)).drew) w2) : HSet w2 wr.heap.size 45 S4.zero := by
  unfold HSet
  rw [hb.block wr.heap.size (by show wr.heap.size < (wr.heap.push _).size; simp)]
  exact heap_alloc_new wr _
theorem made_below {w W : World} (h : Below w.heap.size w W) : Made w W := ⟨h.os, h.tape, h.output, h.size, h.block⟩
theorem made_drew (w : World) : Made w w.drew := ⟨rfl, rfl, rfl, Nat.le_refl _, fun _ _ => rfl⟩
theorem Made.drew {w W : World} (h : Made w W) : Made w W.drew := ⟨h.os, h.tape, h.output, h.size, h.block⟩

theorem ownsRow_len {w : World} {base : Nat} {e : TypeId} {size : Nat} {v : Value} {n : Nat} {xs : List Value} (h : w.ownsRow base e size v n xs) : ∃ ao c, v = .slice ao n c := by
  rcases h.2 with ⟨h2, h3⟩ | ⟨g, cap, cur, h2, _⟩
  · exact ⟨none, 0, by rw [h2, h3]⟩
  · exact ⟨_, _, h2⟩
theorem ext_head (s r : ByteArray) (j : Nat) (hj : j < s.size) (hr : s.extract j s.size = r) (h0 : 0 < r.size) : (r[0]'h0).toNat = (s[j]'hj).toNat := by
  subst hr
  simp [ByteArray.getElem_extract]
theorem isEmpty_of {s : ByteArray} (h : s.size = 0) : s.toList.isEmpty = true := by
  rw [ByteArray.toList_eq, List.isEmpty_iff]; exact List.length_eq_zero_iff.1 (by rw [← size_len]; exact h)
theorem isEmpty_not {s : ByteArray} (h : s.size ≠ 0) : s.toList.isEmpty = false := by
  rw [ByteArray.toList_eq]
  cases hc : s.data.toList with
  | nil => exact absurd (by rw [size_len, hc]; rfl) h
  | cons _ _ => rfl

theorem slice_from (s : ByteArray) (i : Nat) (h : i + 1 ≤ s.size) (W : World) : (Instr.slice 9 (.string s) (some (.int .i64 ((i : Int) + 1))) none none).run Try.prog W = .ok (.string (s.extract (i + 1) s.size)) W := by
  have e : ((i : Int) + 1).toNat = i + 1 := by omega
  rw [run_slice_string_from_if (P := Try.prog) (t := 9) (s := s) (k := .i64) (i := (i : Int) + 1) (h := Try.underlying9), if_pos ⟨by omega, by omega⟩, e]

/-- What compileGlob hands back. -/
def RetComp (s : ByteArray) (fc : Bool) (base : Nat) (e : Ending) (w' : World) : Prop :=
  (∃ ao m c L, e = .returned (.tuple #[.slice ao m c, .bool true]) ∧ w'.ownsRow base 55 6 (.slice ao m c) L.length (cellsOf L) ∧ CI fc s s.size L) ∨
  (e = .returned (.tuple #[.slice none 0 0, .bool false]) ∧ ∃ k, k < s.size ∧ (bt s k = 91 ∨ bt s k = 92))

theorem cw_start (fc : Bool) (w w4 : World) (hz : w4.heap.size = w.heap.size + 3) (h1 : HSet w4 (w.heap.size + 1) 45 S4.notSlash) (h2 : HSet w4 (w.heap.size + 2) 45 S4.full)
    (h3 : w4.heap[w.heap.size]? = some (.cells #[.bool fc] 4 (0, 0))) (h4 : Below w.heap.size w w4) :
    CW fc w ((w4.alloc (.cells #[.slice none 0 0] 51)).alloc (.cells #[oneVal (w.heap.size + 3)] 63)) (.slice none 0 0) [] := by
  have e1 : (w4.alloc (.cells #[.slice none 0 0] 51)).heap.size = w.heap.size + 4 := by simp; omega
  have n1 := heap_alloc_new w4 (.cells #[.slice none 0 0] 51)
  rw [hz] at n1
  have n2 := heap_alloc_new (w4.alloc (.cells #[.slice none 0 0] 51)) (.cells #[oneVal (w.heap.size + 3)] 63)
  rw [e1] at n2
  have old : ∀ k, k < w.heap.size + 3 → ((w4.alloc (.cells #[.slice none 0 0] 51)).alloc (.cells #[oneVal (w.heap.size + 3)] 63)).heap[k]? = w4.heap[k]? := fun k hk => by
    rw [heap_alloc_old _ _ _ (by omega), heap_alloc_old _ _ _ (by omega)]
  refine ⟨by rw [old _ (by omega)]; exact h3, by unfold HSet; rw [old _ (by omega)]; exact h1, by unfold HSet; rw [old _ (by omega)]; exact h2,
    ⟨by rw [heap_alloc_old _ _ _ (by omega)]; exact n1, World.ownsRow_nil _ _ _ _, by omega, by simp; omega⟩, n2, (h4.alloc (by omega) _).alloc (by omega) _⟩

/-- The way behind the test in slot k. -/
def thenAt (k : Nat) : Code → Option Code
  | .cond (.tmp j) a b => if j = k then some a else match thenAt k a with
    | some c => some c
    | none => thenAt k b
  | .seq a b => match thenAt k a with
    | some c => some c
    | none => thenAt k b
  | .block _ c => thenAt k c
  | .scope c => thenAt k c
  | .loop c => thenAt k c
  | _ => none
noncomputable def star : Code := ((Try.f38.body.bind (thenAt 44)).getD .skip)

set_option linter.unusedVariables false in
set_option maxRecDepth 1000000 in
set_option maxHeartbeats 60000000 in
theorem star_any (s : ByteArray) (hs : s.size ≤ 65536) (fc : Bool) (w wr : World) (i : Nat) (v : Value) (L : List Step) (HI : Hid (CI fc s i L)) (HW : Hid (CW fc w wr v L))
    (hi : i < s.size) (hlen : L.length ≤ 65536) (hx : (s[i]'hi).toNat = 42) (HX : Hid (bt s i = 42)) (K : Act → World → Prop) (Q : Exit → Act → World → Prop)
    (c1 c2 c3 c4 c5 c8 c13 c14 c15 c16 c17 c18 c19 c20 c21 c22 c23 c24 c25 c26 c27 c28 c29 c30 c31 c32 c33 c34 c35 c36 c37 c38 c39 c40 c41 c42 c43 c44 c45 c46 c47 c48 c49 c50 c51 c52 c53 c54 c55 c56 c57 c58 c59 c60 c61 c62 c63 c64 c65 c66 c67 c68 c69 c70 c71 c72 c73 c74 c75 c76 c77 c78 c79 c80 c81 c82 c83 c84 c85 c86 c87 c88 c89 c90 c91 c92 c93 c94 c95 c96 c97 c98 c99 c100 c101 c102 c103 c104 c105 c106 c107 c108 c109 c110 c111 c112 c113 c114 c115 c116 c117 c118 c119 c120 c121 c122 c123 c124 c125 c126 c127 c128 c129 c130 c131 c132 c133 c134 c135 c136 c137 c138 c139 c140 c141 c142 c143 c144 c145 c146 c147 c148 c149 c150 c151 c152 c153 c154 c155 c156 c157 c158 c159 c160 c161 c162 c163 c164 c165 c166 c167 c168 c169 c170 : Value) (HK : Hid (∀ (j : Nat) (vj v2 : Value) (L2 : List Step) (w2 : World) (u14 u15 u16 u46 u47 u48 u49 u50 u51 u52 u53 u54 u55 u56 u57 u58 u59 u60 u61 u62 u63 u64 u65 u66 u67 u68 u69 u70 u71 u72 u73 u74 u75 u76 u77 u78 u79 u80 u81 u82 u83 u84 u85 u86 u87 u88 u89 u90 u91 u92 u93 u94 u95 u96 u97 u98 u99 u100 u101 u102 u103 u104 u105 u106 u107 u108 u109 u110 u111 u112 u113 u114 u115 u116 u117 u118 u119 u120 u121 u122 u123 u124 u125 u126 : Value), vj = .int .i64 j → i < j → j ≤ s.size → CI fc s j L2 → CW fc w w2 v2 L2 → K ⟨#[.string s, c1, c2, c3, c4, c5, .pointer (some ⟨w.heap.size + 1, 0, none⟩), .pointer (some ⟨w.heap.size + 1 + 1, 0, none⟩), c8, .pointer (some ⟨w.heap.size + 3, 0, none⟩), .pointer (some ⟨w.heap.size + 3 + 1, 0, none⟩), .func (.func 59) #[] #[.pointer (some ⟨w.heap.size, 0, none⟩), .pointer (some ⟨w.heap.size + 3 + 1, 0, none⟩)], vj, c13, u14, u15, u16, c17, c18, c19, c20, c21, c22, c23, c24, c25, c26, c27, c28, c29, c30, c31, c32, c33, c34, c35, c36, c37, c38, c39, c40, c41, c42, c43, c44, c45, u46, u47, u48, u49, u50, u51, u52, u53, u54, u55, u56, u57, u58, u59, u60, u61, u62, u63, u64, u65, u66, u67, u68, u69, u70, u71, u72, u73, u74, u75, u76, u77, u78, u79, u80, u81, u82, u83, u84, u85, u86, u87, u88, u89, u90, u91, u92, u93, u94, u95, u96, u97, u98, u99, u100, u101, u102, u103, u104, u105, u106, u107, u108, u109, u110, u111, u112, u113, u114, u115, u116, u117, u118, u119, u120, u121, u122, u123, u124, u125, u126, c127, c128, c129, c130, c131, c132, c133, c134, c135, c136, c137, c138, c139, c140, c141, c142, c143, c144, c145, c146, c147, c148, c149, c150, c151, c152, c153, c154, c155, c156, c157, c158, c159, c160, c161, c162, c163, c164, c165, c166, c167, c168, c169, c170], []⟩ w2)) :
    Code.wp Try.prog star (Exit.inBlock 4 (Exit.inBlock 3 (Exit.then K Q))) ⟨#[.string s, c1, c2, c3, c4, c5, .pointer (some ⟨w.heap.size + 1, 0, none⟩), .pointer (some ⟨w.heap.size + 1 + 1, 0, none⟩), c8, .pointer (some ⟨w.heap.size + 3, 0, none⟩), .pointer (some ⟨w.heap.size + 3 + 1, 0, none⟩), .func (.func 59) #[] #[.pointer (some ⟨w.heap.size, 0, none⟩), .pointer (some ⟨w.heap.size + 3 + 1, 0, none⟩)], .int .i64 i, c13, c14, c15, c16, c17, c18, c19, c20, c21, c22, c23, c24, c25, c26, c27, c28, c29, c30, c31, c32, c33, c34, c35, c36, c37, c38, c39, c40, c41, c42, c43, c44, c45, c46, c47, c48, c49, c50, c51, c52, c53, c54, c55, c56, c57, c58, c59, c60, c61, c62, c63, c64, c65, c66, c67, c68, c69, c70, c71, c72, c73, c74, c75, c76, c77, c78, c79, c80, c81, c82, c83, c84, c85, c86, c87, c88, c89, c90, c91, c92, c93, c94, c95, c96, c97, c98, c99, c100, c101, c102, c103, c104, c105, c106, c107, c108, c109, c110, c111, c112, c113, c114, c115, c116, c117, c118, c119, c120, c121, c122, c123, c124, c125, c126, c127, c128, c129, c130, c131, c132, c133, c134, c135, c136, c137, c138, c139, c140, c141, c142, c143, c144, c145, c146, c147, c148, c149, c150, c151, c152, c153, c154, c155, c156, c157, c158, c159, c160, c161, c162, c163, c164, c165, c166, c167, c168, c169, c170], []⟩ wr := by
  conv => arg 2; whnf
  go_wp2
  go_loopg [14] (s.size - i) (fun g2 ve wr2 => ∃ j : Nat, j + g2 = s.size ∧ i ≤ j ∧ ve = .int .i64 j ∧ wr2 = wr)
  case atStart => exact ⟨i, by omega, by omega, rfl, rfl⟩
  case round =>
    obtain ⟨j, hjg, hij, rfl, rfl⟩ := hrel
    by_cases hstar : ∃ h : j < s.size, (s[j]'h).toNat = 42
    · obtain ⟨hj, hjs⟩ := hstar
      cases gk with
      | zero => omega
      | succ g2 =>
        go_wp2
        go_roundg g2
        case measure => omega
        case rel => exact ⟨j + 1, by omega, by omega, by go_num, rfl⟩
    · have hij2 : i < j := by
        rcases Nat.lt_or_ge i j with h | h
        · exact h
        · obtain rfl : j = i := by omega
          exact absurd ⟨hi, hx⟩ hstar
      have hj' : j ≤ s.size := by omega
      clear hjg
      obtain ⟨r, hr⟩ : ∃ r, s.extract j s.size = r := ⟨_, rfl⟩
      have hrz : r.size = s.size - j := by rw [← hr, size_extract]; omega
      have hrs : r.size ≤ 65536 := by omega
      by_cases hj : j < s.size
      · obtain ⟨z, hz⟩ : ∃ z, (s[j]'hj).toNat = z := ⟨_, rfl⟩
        have hzn : ((z : Int) == 42) = false := by
          rw [beq_eq_false_iff_ne]; intro c; exact hstar ⟨hj, by rw [hz]; omega⟩
        have hr0 : 0 < r.size := by omega
        have hrb : (r[0]'hr0).toNat = z := by rw [← hz]; exact ext_head s r j hj hr hr0
        have hre : r.toList.isEmpty = false := isEmpty_not (by omega)
        clear hstar hrz
        go_upto_region 23 with fail
        go_cut [16] from 46 to 126 (fun v w1 => ∃ cmp : Bool, v = .bool cmp ∧ (cmp = true → i + 2 ≤ j) ∧ w1 = wr)
        case first =>
          clear HI HX HW
          by_cases h2 : i + 2 ≤ j
          · rcases Nat.eq_zero_or_pos i with hi0 | hi0
            · subst hi0
              go_wp2_with (go_at_call 55; refine (hasPrefix55b r hrs _).mono ?_; rintro e w5 ⟨⟨vv, rfl⟩, hw5⟩; rw [hw5])
              all_goals
                go_meet
                case rel => exact ⟨_, rfl, fun _ => h2, rfl⟩
            · obtain ⟨m, rfl⟩ : ∃ m, i = m + 1 := ⟨i - 1, by omega⟩
              go_wp2_with (go_at_call 55; refine (hasPrefix55b r hrs _).mono ?_; rintro e w5 ⟨⟨vv, rfl⟩, hw5⟩; rw [hw5])
              all_goals
                go_meet
                case rel => exact ⟨_, rfl, fun _ => h2, rfl⟩
          · go_wp2
            go_meet
            case rel => exact ⟨false, rfl, fun h => (by cases h), rfl⟩
        case rest =>
          obtain ⟨cmp, rfl, hcmp, rfl⟩ := hcut
          have HCm : Hid (cmp = true → i + 2 ≤ j) := hcmp
          clear hcmp
          obtain ⟨ao, cp, rfl⟩ := ownsRow_len HW.out.owns.row
          have hv := cell_of_one HW.out.owns.var
          obtain ⟨i0, hi0, hz0, hz1, hz2⟩ := info_parts Try.info55
          cases cmp with
          | false =>
            clear HCm
            obtain ⟨c0, c1, c2, c3⟩ := HW.out.ns.words
            go_wp2_with (at_builtin; refine wpList_append_own _ rfl (.tmp 90) (.tmp 93) 51 rfl (w.heap.size + 5) 55 i0 _ 6 48 Try.underlying51 hi0 hz0 hz1 hz2 rfl (by decide) (.slice ao L.length cp) L.length (cellsOf L) rfl (HW.out.owns.row.alloc _) ⟨wc.heap.size, 0, none⟩ 1 1 (Step.cells ⟨S4.notSlash, true, 0⟩) rfl rfl ?c1a2 ?c2a2 ?c3a2 ?c4a2 ?c5a2 ?_)
            case c1a2 =>
              intro jj u hj
              match jj, hj with
              | 0, hj => simp [Step.cells] at hj; subst hj; simp [Addr.add]
              | 1, hj => simp [Step.cells] at hj; subst hj; simp [Addr.add]
              | 2, hj => simp [Step.cells] at hj; subst hj; simp [Addr.add]
              | 3, hj => simp [Step.cells] at hj; subst hj; simp [Addr.add]
              | 4, hj => simp [Step.cells] at hj; subst hj; simp [Addr.add]
              | 5, hj => simp [Step.cells] at hj; subst hj; simp [Addr.add]
              | k + 6, hj => simp [Step.cells] at hj
            case c2a2 => intro u hu; simp [Step.cells] at hu; rcases hu with rfl | rfl | rfl | rfl | rfl | rfl <;> rfl
            case c3a2 => unfold maxLen; omega
            case c4a2 => omega
            case c5a2 => have := HW.out.owns.base_le; simp; omega
            intro v' w1 hown' hgrow _
            obtain ⟨ao2, m2, cp2, hv'⟩ := ownsRow_form hown'
            rw [hv'] at hown'
            rw [hv']
            clear hv'
            have hrow : w1.ownsRow (w.heap.size + 5) 55 6 (.slice ao2 m2 cp2) (L ++ [(⟨S4.notSlash, true, 0⟩ : Step)]).length (cellsOf (L ++ [(⟨S4.notSlash, true, 0⟩ : Step)])) := by
              have e : cellsOf (L ++ [(⟨S4.notSlash, true, 0⟩ : Step)]) = cellsOf L ++ (Step.cells ⟨S4.notSlash, true, 0⟩) := by simp [cellsOf]
              rw [e, List.length_append]; exact hown'
            have R := owns_append HW.out.owns hgrow ((Made.refl wc).alloc _) hrow
            have hb1 : w1.heap[w.heap.size + 3]? = some (.cells #[.slice ao L.length cp] 51 (0, 0)) := by
              have hlt3 := lt_of_block HW.out.owns.var
              rw [hgrow.block _ (by simp; omega) (ownBlock_ge HW.out.owns.row HW.out.owns.lt), heap_alloc_old _ _ _ hlt3]; exact HW.out.owns.var
            have hc1 := cell_of_one hb1
            have hf1 := free_of_one hb1
            have HW1 : Hid (CW fc w (w1.setCell ⟨w.heap.size + 3, 0, none⟩ (.slice ao2 m2 cp2)) (.slice ao2 m2 cp2) (L ++ [(⟨S4.notSlash, true, 0⟩ : Step)])) := HW.out.grew R.1 R.2
            clear hown' hgrow hrow hb1 R hv hi0 hz0 hz1 hz2
            clear c0 c1 c2 c3
            have HI2 : Hid (CI fc s j (L ++ [⟨S4.notSlash, true, 0⟩])) := HI.out.special hij2 (by omega) (by rw [HX.out]; omega) ns_ok (fun _ => Or.inr rfl) (fun a => (by cases a))
            go_wp2
            exact HK.out j _ _ _ _ _ _ _ _ _ _ _ _ _ _ _ _ _ _ _ _ _ _ _ _ _ _ _ _ _ _ _ _ _ _ _ _ _ _ _ _ _ _ _ _ _ _ _ _ _ _ _ _ _ _ _ _ _ _ _ _ _ _ _ _ _ _ _ _ _ _ _ _ _ _ _ _ _ _ _ _ _ _ _ _ _ _ _ _ (by go_num) (by omega) (by omega) HI2.out HW1.out
          | true =>
            have hij3 : i + 2 ≤ j := HCm.out (by trivial)
            clear HCm
            by_cases hz47 : z = 47
            · skip
              subst hz47
              obtain ⟨c0, c1, c2, c3⟩ := HW.out.al.words
              go_wp2_with (at_builtin; refine wpList_append_own _ rfl (.tmp 106) (.tmp 113) 51 rfl (w.heap.size + 5) 55 i0 _ 6 48 Try.underlying51 hi0 hz0 hz1 hz2 rfl (by decide) (.slice ao L.length cp) L.length (cellsOf L) rfl (HW.out.owns.row.alloc _) ⟨wc.heap.size, 0, none⟩ 2 2 (Step.cells ⟨S4.zero, false, L.length + 3⟩ ++ Step.cells ⟨S4.full, true, 0⟩) rfl rfl ?c1f2 ?c2f2 ?c3f2 ?c4f2 ?c5f2 ?_)
              case c1f2 =>
                intro jj u hj
                match jj, hj with
                | 0, hj => simp [Step.cells] at hj; subst hj; simp [Addr.add, S4.zero]
                | 1, hj => simp [Step.cells] at hj; subst hj; simp [Addr.add, S4.zero]
                | 2, hj => simp [Step.cells] at hj; subst hj; simp [Addr.add, S4.zero]
                | 3, hj => simp [Step.cells] at hj; subst hj; simp [Addr.add, S4.zero]
                | 4, hj => simp [Step.cells] at hj; subst hj; simp [Addr.add]
                | 5, hj => simp [Step.cells] at hj; subst hj; simp [Addr.add]
                | 6, hj => simp [Step.cells] at hj; subst hj; simp [Addr.add]
                | 7, hj => simp [Step.cells] at hj; subst hj; simp [Addr.add]
                | 8, hj => simp [Step.cells] at hj; subst hj; simp [Addr.add]
                | 9, hj => simp [Step.cells] at hj; subst hj; simp [Addr.add]
                | 10, hj => simp [Step.cells] at hj; subst hj; simp [Addr.add]
                | 11, hj => simp [Step.cells] at hj; subst hj; simp [Addr.add]
                | k + 12, hj => simp [Step.cells] at hj
              case c2f2 => intro u hu; simp [Step.cells] at hu; rcases hu with rfl | rfl | rfl | rfl | rfl | rfl | rfl | rfl | rfl | rfl | rfl | rfl <;> rfl
              case c3f2 => unfold maxLen; omega
              case c4f2 => omega
              case c5f2 => have := HW.out.owns.base_le; simp; omega
              intro v' w1 hown' hgrow _
              obtain ⟨ao2, m2, cp2, hv'⟩ := ownsRow_form hown'
              rw [hv'] at hown'
              rw [hv']
              clear hv'
              have hrow : w1.ownsRow (w.heap.size + 5) 55 6 (.slice ao2 m2 cp2) (L ++ [(⟨S4.zero, false, L.length + 3⟩ : Step), ⟨S4.full, true, 0⟩]).length (cellsOf (L ++ [(⟨S4.zero, false, L.length + 3⟩ : Step), ⟨S4.full, true, 0⟩])) := by
                have e : cellsOf (L ++ [(⟨S4.zero, false, L.length + 3⟩ : Step), ⟨S4.full, true, 0⟩]) = cellsOf L ++ (Step.cells ⟨S4.zero, false, L.length + 3⟩ ++ Step.cells ⟨S4.full, true, 0⟩) := by simp [cellsOf]
                rw [e, List.length_append]; exact hown'
              have R := owns_append HW.out.owns hgrow ((Made.refl wc).alloc _) hrow
              have hb1 : w1.heap[w.heap.size + 3]? = some (.cells #[.slice ao L.length cp] 51 (0, 0)) := by
                have hlt3 := lt_of_block HW.out.owns.var
                rw [hgrow.block _ (by simp; omega) (ownBlock_ge HW.out.owns.row HW.out.owns.lt), heap_alloc_old _ _ _ hlt3]; exact HW.out.owns.var
              have hc1 := cell_of_one hb1
              have hf1 := free_of_one hb1
              have HW1 : Hid (CW fc w (w1.setCell ⟨w.heap.size + 3, 0, none⟩ (.slice ao2 m2 cp2)) (.slice ao2 m2 cp2) (L ++ [(⟨S4.zero, false, L.length + 3⟩ : Step), ⟨S4.full, true, 0⟩])) := HW.out.grew R.1 R.2
              clear hown' hgrow hrow hb1 R hv hi0 hz0 hz1 hz2
              clear c0 c1 c2 c3
              go_wp2_with fail
              refine (lit_any 47 (by omega) fc _ _ (w.heap.size + 5) (w.heap.size + 3) (.slice ao2 m2 cp2) _ (by simp; omega) _ HW1.out.owns HW1.out.fold HW1.out.one).mono ?_
              rintro e w6 ⟨rfl, ⟨v6, h6⟩, g6⟩
              rw [lit_47] at h6
              have HW6 : Hid (CW fc w w6 v6 (L ++ [⟨S4.zero, false, L.length + 3⟩, ⟨S4.full, true, 0⟩] ++ [⟨S4.slash, false, 0⟩])) := HW1.out.grew h6 g6
              have HI2 : Hid (CI fc s (j + 1) (L ++ [⟨S4.zero, false, L.length + 3⟩, ⟨S4.full, true, 0⟩] ++ [⟨S4.slash, false, 0⟩])) := HI.out.fork (by omega) (by omega) HX.out
              clear h6 g6 hc1 hf1
              go_wp2
              exact HK.out (j + 1) _ _ _ _ _ _ _ _ _ _ _ _ _ _ _ _ _ _ _ _ _ _ _ _ _ _ _ _ _ _ _ _ _ _ _ _ _ _ _ _ _ _ _ _ _ _ _ _ _ _ _ _ _ _ _ _ _ _ _ _ _ _ _ _ _ _ _ _ _ _ _ _ _ _ _ _ _ _ _ _ _ _ _ _ _ _ _ _ (by go_num) (by omega) (by omega) HI2.out HW6.out
            · skip
              have ez : ((z : Int) == 47) = false := by rw [beq_eq_false_iff_ne]; omega
              clear hz47
              obtain ⟨c0, c1, c2, c3⟩ := HW.out.al.words
              go_wp2_with (at_builtin; refine wpList_append_own _ rfl (.tmp 121) (.tmp 124) 51 rfl (w.heap.size + 5) 55 i0 _ 6 48 Try.underlying51 hi0 hz0 hz1 hz2 rfl (by decide) (.slice ao L.length cp) L.length (cellsOf L) rfl (HW.out.owns.row.alloc _) ⟨wc.heap.size, 0, none⟩ 1 1 (Step.cells ⟨S4.full, true, 0⟩) rfl rfl ?c1b2 ?c2b2 ?c3b2 ?c4b2 ?c5b2 ?_)
              case c1b2 =>
                intro jj u hj
                match jj, hj with
                | 0, hj => simp [Step.cells] at hj; subst hj; simp [Addr.add]
                | 1, hj => simp [Step.cells] at hj; subst hj; simp [Addr.add]
                | 2, hj => simp [Step.cells] at hj; subst hj; simp [Addr.add]
                | 3, hj => simp [Step.cells] at hj; subst hj; simp [Addr.add]
                | 4, hj => simp [Step.cells] at hj; subst hj; simp [Addr.add]
                | 5, hj => simp [Step.cells] at hj; subst hj; simp [Addr.add]
                | k + 6, hj => simp [Step.cells] at hj
              case c2b2 => intro u hu; simp [Step.cells] at hu; rcases hu with rfl | rfl | rfl | rfl | rfl | rfl <;> rfl
              case c3b2 => unfold maxLen; omega
              case c4b2 => omega
              case c5b2 => have := HW.out.owns.base_le; simp; omega
              intro v' w1 hown' hgrow _
              obtain ⟨ao2, m2, cp2, hv'⟩ := ownsRow_form hown'
              rw [hv'] at hown'
              rw [hv']
              clear hv'
              have hrow : w1.ownsRow (w.heap.size + 5) 55 6 (.slice ao2 m2 cp2) (L ++ [(⟨S4.full, true, 0⟩ : Step)]).length (cellsOf (L ++ [(⟨S4.full, true, 0⟩ : Step)])) := by
                have e : cellsOf (L ++ [(⟨S4.full, true, 0⟩ : Step)]) = cellsOf L ++ (Step.cells ⟨S4.full, true, 0⟩) := by simp [cellsOf]
                rw [e, List.length_append]; exact hown'
              have R := owns_append HW.out.owns hgrow ((Made.refl wc).alloc _) hrow
              have hb1 : w1.heap[w.heap.size + 3]? = some (.cells #[.slice ao L.length cp] 51 (0, 0)) := by
                have hlt3 := lt_of_block HW.out.owns.var
                rw [hgrow.block _ (by simp; omega) (ownBlock_ge HW.out.owns.row HW.out.owns.lt), heap_alloc_old _ _ _ hlt3]; exact HW.out.owns.var
              have hc1 := cell_of_one hb1
              have hf1 := free_of_one hb1
              have HW1 : Hid (CW fc w (w1.setCell ⟨w.heap.size + 3, 0, none⟩ (.slice ao2 m2 cp2)) (.slice ao2 m2 cp2) (L ++ [(⟨S4.full, true, 0⟩ : Step)])) := HW.out.grew R.1 R.2
              clear hown' hgrow hrow hb1 R hv hi0 hz0 hz1 hz2
              clear c0 c1 c2 c3
              have HI2 : Hid (CI fc s j (L ++ [⟨S4.full, true, 0⟩])) := HI.out.special hij2 (by omega) (by rw [HX.out]; omega) S4.ok_full (fun _ => Or.inl rfl) (fun a => (by cases a))
              go_wp2
              exact HK.out j _ _ _ _ _ _ _ _ _ _ _ _ _ _ _ _ _ _ _ _ _ _ _ _ _ _ _ _ _ _ _ _ _ _ _ _ _ _ _ _ _ _ _ _ _ _ _ _ _ _ _ _ _ _ _ _ _ _ _ _ _ _ _ _ _ _ _ _ _ _ _ _ _ _ _ _ _ _ _ _ _ _ _ _ _ _ _ _ (by go_num) (by omega) (by omega) HI2.out HW1.out
      · have hre : r.toList.isEmpty = true := isEmpty_of (by omega)
        clear hstar hrz
        go_upto_region 23 with fail
        go_cut [16] from 46 to 126 (fun v w1 => ∃ cmp : Bool, v = .bool cmp ∧ (cmp = true → i + 2 ≤ j) ∧ w1 = wr)
        case first =>
          clear HI HX HW
          by_cases h2 : i + 2 ≤ j
          · rcases Nat.eq_zero_or_pos i with hi0 | hi0
            · subst hi0
              go_wp2_with (go_at_call 55; refine (hasPrefix55b r hrs _).mono ?_; rintro e w5 ⟨⟨vv, rfl⟩, hw5⟩; rw [hw5])
              all_goals
                go_meet
                case rel => exact ⟨_, rfl, fun _ => h2, rfl⟩
            · obtain ⟨m, rfl⟩ : ∃ m, i = m + 1 := ⟨i - 1, by omega⟩
              go_wp2_with (go_at_call 55; refine (hasPrefix55b r hrs _).mono ?_; rintro e w5 ⟨⟨vv, rfl⟩, hw5⟩; rw [hw5])
              all_goals
                go_meet
                case rel => exact ⟨_, rfl, fun _ => h2, rfl⟩
          · go_wp2
            go_meet
            case rel => exact ⟨false, rfl, fun h => (by cases h), rfl⟩
        case rest =>
          obtain ⟨cmp, rfl, hcmp, rfl⟩ := hcut
          have HCm : Hid (cmp = true → i + 2 ≤ j) := hcmp
          clear hcmp
          obtain ⟨ao, cp, rfl⟩ := ownsRow_len HW.out.owns.row
          have hv := cell_of_one HW.out.owns.var
          obtain ⟨i0, hi0, hz0, hz1, hz2⟩ := info_parts Try.info55
          cases cmp with
          | false =>
            clear HCm
            obtain ⟨c0, c1, c2, c3⟩ := HW.out.ns.words
            go_wp2_with (at_builtin; refine wpList_append_own _ rfl (.tmp 90) (.tmp 93) 51 rfl (w.heap.size + 5) 55 i0 _ 6 48 Try.underlying51 hi0 hz0 hz1 hz2 rfl (by decide) (.slice ao L.length cp) L.length (cellsOf L) rfl (HW.out.owns.row.alloc _) ⟨wc.heap.size, 0, none⟩ 1 1 (Step.cells ⟨S4.notSlash, true, 0⟩) rfl rfl ?c1a1 ?c2a1 ?c3a1 ?c4a1 ?c5a1 ?_)
            case c1a1 =>
              intro jj u hj
              match jj, hj with
              | 0, hj => simp [Step.cells] at hj; subst hj; simp [Addr.add]
              | 1, hj => simp [Step.cells] at hj; subst hj; simp [Addr.add]
              | 2, hj => simp [Step.cells] at hj; subst hj; simp [Addr.add]
              | 3, hj => simp [Step.cells] at hj; subst hj; simp [Addr.add]
              | 4, hj => simp [Step.cells] at hj; subst hj; simp [Addr.add]
              | 5, hj => simp [Step.cells] at hj; subst hj; simp [Addr.add]
              | k + 6, hj => simp [Step.cells] at hj
            case c2a1 => intro u hu; simp [Step.cells] at hu; rcases hu with rfl | rfl | rfl | rfl | rfl | rfl <;> rfl
            case c3a1 => unfold maxLen; omega
            case c4a1 => omega
            case c5a1 => have := HW.out.owns.base_le; simp; omega
            intro v' w1 hown' hgrow _
            obtain ⟨ao2, m2, cp2, hv'⟩ := ownsRow_form hown'
            rw [hv'] at hown'
            rw [hv']
            clear hv'
            have hrow : w1.ownsRow (w.heap.size + 5) 55 6 (.slice ao2 m2 cp2) (L ++ [(⟨S4.notSlash, true, 0⟩ : Step)]).length (cellsOf (L ++ [(⟨S4.notSlash, true, 0⟩ : Step)])) := by
              have e : cellsOf (L ++ [(⟨S4.notSlash, true, 0⟩ : Step)]) = cellsOf L ++ (Step.cells ⟨S4.notSlash, true, 0⟩) := by simp [cellsOf]
              rw [e, List.length_append]; exact hown'
            have R := owns_append HW.out.owns hgrow ((Made.refl wc).alloc _) hrow
            have hb1 : w1.heap[w.heap.size + 3]? = some (.cells #[.slice ao L.length cp] 51 (0, 0)) := by
              have hlt3 := lt_of_block HW.out.owns.var
              rw [hgrow.block _ (by simp; omega) (ownBlock_ge HW.out.owns.row HW.out.owns.lt), heap_alloc_old _ _ _ hlt3]; exact HW.out.owns.var
            have hc1 := cell_of_one hb1
            have hf1 := free_of_one hb1
            have HW1 : Hid (CW fc w (w1.setCell ⟨w.heap.size + 3, 0, none⟩ (.slice ao2 m2 cp2)) (.slice ao2 m2 cp2) (L ++ [(⟨S4.notSlash, true, 0⟩ : Step)])) := HW.out.grew R.1 R.2
            clear hown' hgrow hrow hb1 R hv hi0 hz0 hz1 hz2
            clear c0 c1 c2 c3
            have HI2 : Hid (CI fc s j (L ++ [⟨S4.notSlash, true, 0⟩])) := HI.out.special hij2 (by omega) (by rw [HX.out]; omega) ns_ok (fun _ => Or.inr rfl) (fun a => (by cases a))
            go_wp2
            exact HK.out j _ _ _ _ _ _ _ _ _ _ _ _ _ _ _ _ _ _ _ _ _ _ _ _ _ _ _ _ _ _ _ _ _ _ _ _ _ _ _ _ _ _ _ _ _ _ _ _ _ _ _ _ _ _ _ _ _ _ _ _ _ _ _ _ _ _ _ _ _ _ _ _ _ _ _ _ _ _ _ _ _ _ _ _ _ _ _ _ (by go_num) (by omega) (by omega) HI2.out HW1.out
          | true =>
            have hij3 : i + 2 ≤ j := HCm.out (by trivial)
            clear HCm
            obtain ⟨c0, c1, c2, c3⟩ := HW.out.al.words
            go_wp2_with (at_builtin; refine wpList_append_own _ rfl (.tmp 121) (.tmp 124) 51 rfl (w.heap.size + 5) 55 i0 _ 6 48 Try.underlying51 hi0 hz0 hz1 hz2 rfl (by decide) (.slice ao L.length cp) L.length (cellsOf L) rfl (HW.out.owns.row.alloc _) ⟨wc.heap.size, 0, none⟩ 1 1 (Step.cells ⟨S4.full, true, 0⟩) rfl rfl ?c1b1 ?c2b1 ?c3b1 ?c4b1 ?c5b1 ?_)
            case c1b1 =>
              intro jj u hj
              match jj, hj with
              | 0, hj => simp [Step.cells] at hj; subst hj; simp [Addr.add]
              | 1, hj => simp [Step.cells] at hj; subst hj; simp [Addr.add]
              | 2, hj => simp [Step.cells] at hj; subst hj; simp [Addr.add]
              | 3, hj => simp [Step.cells] at hj; subst hj; simp [Addr.add]
              | 4, hj => simp [Step.cells] at hj; subst hj; simp [Addr.add]
              | 5, hj => simp [Step.cells] at hj; subst hj; simp [Addr.add]
              | k + 6, hj => simp [Step.cells] at hj
            case c2b1 => intro u hu; simp [Step.cells] at hu; rcases hu with rfl | rfl | rfl | rfl | rfl | rfl <;> rfl
            case c3b1 => unfold maxLen; omega
            case c4b1 => omega
            case c5b1 => have := HW.out.owns.base_le; simp; omega
            intro v' w1 hown' hgrow _
            obtain ⟨ao2, m2, cp2, hv'⟩ := ownsRow_form hown'
            rw [hv'] at hown'
            rw [hv']
            clear hv'
            have hrow : w1.ownsRow (w.heap.size + 5) 55 6 (.slice ao2 m2 cp2) (L ++ [(⟨S4.full, true, 0⟩ : Step)]).length (cellsOf (L ++ [(⟨S4.full, true, 0⟩ : Step)])) := by
              have e : cellsOf (L ++ [(⟨S4.full, true, 0⟩ : Step)]) = cellsOf L ++ (Step.cells ⟨S4.full, true, 0⟩) := by simp [cellsOf]
              rw [e, List.length_append]; exact hown'
            have R := owns_append HW.out.owns hgrow ((Made.refl wc).alloc _) hrow
            have hb1 : w1.heap[w.heap.size + 3]? = some (.cells #[.slice ao L.length cp] 51 (0, 0)) := by
              have hlt3 := lt_of_block HW.out.owns.var
              rw [hgrow.block _ (by simp; omega) (ownBlock_ge HW.out.owns.row HW.out.owns.lt), heap_alloc_old _ _ _ hlt3]; exact HW.out.owns.var
            have hc1 := cell_of_one hb1
            have hf1 := free_of_one hb1
            have HW1 : Hid (CW fc w (w1.setCell ⟨w.heap.size + 3, 0, none⟩ (.slice ao2 m2 cp2)) (.slice ao2 m2 cp2) (L ++ [(⟨S4.full, true, 0⟩ : Step)])) := HW.out.grew R.1 R.2
            clear hown' hgrow hrow hb1 R hv hi0 hz0 hz1 hz2
            clear c0 c1 c2 c3
            have HI2 : Hid (CI fc s j (L ++ [⟨S4.full, true, 0⟩])) := HI.out.special hij2 (by omega) (by rw [HX.out]; omega) S4.ok_full (fun _ => Or.inl rfl) (fun a => (by cases a))
            go_wp2
            exact HK.out j _ _ _ _ _ _ _ _ _ _ _ _ _ _ _ _ _ _ _ _ _ _ _ _ _ _ _ _ _ _ _ _ _ _ _ _ _ _ _ _ _ _ _ _ _ _ _ _ _ _ _ _ _ _ _ _ _ _ _ _ _ _ _ _ _ _ _ _ _ _ _ _ _ _ _ _ _ _ _ _ _ _ _ _ _ _ _ _ (by go_num) (by omega) (by omega) HI2.out HW1.out

end Go.Proofs.Qxb6602360a
