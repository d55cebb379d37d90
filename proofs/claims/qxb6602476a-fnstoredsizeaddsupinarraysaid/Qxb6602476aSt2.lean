/-
  WALK: numberSize, from its end on.
-/
import Derived.Test.Qxb6602476aSt1
namespace Go.Proofs.Qxb6602476a
open Go.RowKit Plain

noncomputable def ns22 : Code := ((Try.f29.body.bind (tailAt 22)).getD .skip)
noncomputable def ns16 : Code := ((Try.f29.body.bind (tailAt 16)).getD .skip)
noncomputable def ns11 : Code := ((Try.f29.body.bind (tailAt 11)).getD .skip)

set_option linter.unusedVariables false in
set_option maxRecDepth 1000000 in
set_option maxHeartbeats 4000000 in
theorem ns_count (I F : Nat) (raw X : Int) (neg has : Bool) (first : Nat) (hI : I ≤ 4194304) (hF : F ≤ 4194304) (hX : -1073741824 ≤ X) (hX2 : X ≤ 1073741824)
    (hraw : (has = true ∧ ∃ f : Nat, raw = f ∧ f ≤ 4194304 ∧ first = if I < f then f - 1 else f) ∨ (has = false ∧ raw = -1)) (w0 w : World) (HW : Hid (∃ k, w = w0.drewN k)) (c0 c1 c2 c4 c6 c7 c10 c12 c13 c14 c15 c16 c17 c18 c19 c20 c21 c22 c23 c24 c25 c26 c27 c28 c29 c30 c31 c32 c33 c34 c35 c36 c37 c38 c39 c40 c41 c42 c43 c44 c45 c46 c47 c48 c49 c50 c51 c52 c53 c54 c55 c56 c57 c58 c59 c60 c61 c62 c63 c64 c65 c66 c67 c68 c69 c70 c71 c72 c73 c74 c75 c76 c77 c78 c79 c80 c81 c82 c83 c84 c85 c86 c87 c88 c89 c90 c91 c92 c93 c94 c95 c96 c97 c98 c99 c100 c101 c102 c103 c104 c105 c106 c107 c108 : Value) :
    Code.wp Try.prog ns22 (bodyPost Try.prog Try.f29 fun e w' => e = .returned (.int .i64 (NS neg has I F first X)) ∧ ∃ k, w' = w0.drewN k) ⟨#[c0, c1, c2, .bool neg, c4, .int .i64 X, c6, c7, .int .i64 (I : Nat), .int .i64 (F : Nat), c10, .int .i64 raw, c12, c13, c14, c15, c16, c17, c18, c19, c20, c21, c22, c23, c24, c25, c26, c27, c28, c29, c30, c31, c32, c33, c34, c35, c36, c37, c38, c39, c40, c41, c42, c43, c44, c45, c46, c47, c48, c49, c50, c51, c52, c53, c54, c55, c56, c57, c58, c59, c60, c61, c62, c63, c64, c65, c66, c67, c68, c69, c70, c71, c72, c73, c74, c75, c76, c77, c78, c79, c80, c81, c82, c83, c84, c85, c86, c87, c88, c89, c90, c91, c92, c93, c94, c95, c96, c97, c98, c99, c100, c101, c102, c103, c104, c105, c106, c107, c108], []⟩ w := by
  conv => arg 2; whnf
  have HF : Hid (∀ a b : Int, a = b → Ending.returned (.int .i64 a) = .returned (.int .i64 b)) := fun a b h => by rw [h]
  rcases hraw with ⟨rfl, f, rfl, hf, hfirst⟩ | ⟨rfl, rfl⟩
  · have H1 : Hid (first = if I < f then f - 1 else f) := hfirst
    clear hfirst
    cases neg
    all_goals
      go_wp2
      all_goals
        go_ret
        refine ⟨HF.out _ _ ?_, HW.out⟩
        have h1 := H1.out
        unfold NS
        simp only [true_and, and_true, if_true, Bool.false_eq_true, if_false]
        split at h1 <;> repeat' split
        all_goals omega
  · cases neg
    all_goals
      go_wp2
      all_goals
        go_ret
        refine ⟨HF.out _ _ ?_, HW.out⟩
        unfold NS
        simp only [if_false, Bool.false_eq_true, false_and, and_false]
        repeat' split
        all_goals omega

theorem fst_found {v : Nat → Nat} {m p q j first : Nat} {has : Bool} (h : Fst v m p q has first) (hm : m ≤ p) (hj : m + j < q) (hz : Nz (v (m + j))) (hn : ∀ k, k < j → ¬ Nz (v (m + k))) : has = true ∧ first = if p - m < j then j - 1 else j := by
  rcases h with ⟨h1, f, h2, h3, h4, h5, h6⟩ | ⟨h1, h2⟩
  · have e : f = m + j := by
      rcases Nat.lt_trichotomy f (m + j) with h | h | h
      · exact absurd (by rw [show m + (f - m) = f by omega]; exact h4) (hn (f - m) (by omega))
      · exact h
      · exact absurd hz (h5 (m + j) (by omega) h)
    subst e
    refine ⟨h1, ?_⟩
    rw [h6]
    split <;> split <;> omega
  · exact absurd hz (h2 (m + j) (by omega) hj)
theorem fst_none {v : Nat → Nat} {m p q first : Nat} {has : Bool} (h : Fst v m p q has first) (hn : ∀ k, k < q - m → ¬ Nz (v (m + k))) : has = false := by
  rcases h with ⟨h1, f, h2, h3, h4, h5, h6⟩ | ⟨h1, h2⟩
  · exact absurd (by rw [show m + (f - m) = f by omega]; exact h4) (hn (f - m) (by omega))
  · exact h1

set_option linter.unusedVariables false in
set_option maxRecDepth 1000000 in
set_option maxHeartbeats 4000000 in
theorem ns_first (g N m p q l cp : Nat) (hm : m ≤ p) (hl : m + l = q) (hqN : q ≤ N) (hpN : p ≤ N) (hN : N ≤ 2097160) (v : Nat → Nat) (F : Nat) (X : Int) (neg has : Bool) (first : Nat) (hF : F ≤ 4194304) (hX : -1073741824 ≤ X) (hX2 : X ≤ 1073741824)
    (HS : Hid (Fst v m p q has first)) (w0 w : World) (HW : Hid (∃ k, w = w0.drewN k)) (HR : Hid (Row w g N v)) (c0 c1 c2 c6 c7 c10 c12 c13 c14 c15 c16 c17 c18 c19 c20 c21 c22 c23 c24 c25 c26 c27 c28 c29 c30 c31 c32 c33 c34 c35 c36 c37 c38 c39 c40 c41 c42 c43 c44 c45 c46 c47 c48 c49 c50 c51 c52 c53 c54 c55 c56 c57 c58 c59 c60 c61 c62 c63 c64 c65 c66 c67 c68 c69 c70 c71 c72 c73 c74 c75 c76 c77 c78 c79 c80 c81 c82 c83 c84 c85 c86 c87 c88 c89 c90 c91 c92 c93 c94 c95 c96 c97 c98 c99 c100 c101 c102 c103 c104 c105 c106 c107 c108 : Value) :
    Code.wp Try.prog ns16 (bodyPost Try.prog Try.f29 fun e w' => e = .returned (.int .i64 (NS neg has (p - m) F first X)) ∧ ∃ k, w' = w0.drewN k) ⟨#[c0, c1, c2, .bool neg, .slice (some ⟨g, m, none⟩) l cp, .int .i64 X, c6, c7, .int .i64 (p - m : Nat), .int .i64 (F : Nat), c10, .int .i64 (-1), c12, c13, c14, c15, c16, c17, c18, c19, c20, c21, c22, c23, c24, c25, c26, c27, c28, c29, c30, c31, c32, c33, c34, c35, c36, c37, c38, c39, c40, c41, c42, c43, c44, c45, c46, c47, c48, c49, c50, c51, c52, c53, c54, c55, c56, c57, c58, c59, c60, c61, c62, c63, c64, c65, c66, c67, c68, c69, c70, c71, c72, c73, c74, c75, c76, c77, c78, c79, c80, c81, c82, c83, c84, c85, c86, c87, c88, c89, c90, c91, c92, c93, c94, c95, c96, c97, c98, c99, c100, c101, c102, c103, c104, c105, c106, c107, c108], []⟩ w := by
  conv => arg 2; whnf
  refine wp_seq_k fun K hK => ?_
  have HKK : Hid (∀ (raw : Int) (u12 u13 u59 u60 u61 u62 u63 u64 u65 u66 u67 u68 u69 u70 u71 u72 u73 : Value), ((has = true ∧ ∃ f : Nat, raw = f ∧ f ≤ 4194304 ∧ first = if p - m < f then f - 1 else f) ∨ (has = false ∧ raw = -1)) → K ⟨#[c0, c1, c2, .bool neg, .slice (some ⟨g, m, none⟩) l cp, .int .i64 X, c6, c7, .int .i64 (p - m : Nat), .int .i64 (F : Nat), c10, .int .i64 raw, u12, u13, c14, c15, c16, c17, c18, c19, c20, c21, c22, c23, c24, c25, c26, c27, c28, c29, c30, c31, c32, c33, c34, c35, c36, c37, c38, c39, c40, c41, c42, c43, c44, c45, c46, c47, c48, c49, c50, c51, c52, c53, c54, c55, c56, c57, c58, u59, u60, u61, u62, u63, u64, u65, u66, u67, u68, u69, u70, u71, u72, u73, c74, c75, c76, c77, c78, c79, c80, c81, c82, c83, c84, c85, c86, c87, c88, c89, c90, c91, c92, c93, c94, c95, c96, c97, c98, c99, c100, c101, c102, c103, c104, c105, c106, c107, c108], []⟩ w) := by
    intro raw u12 u13 u59 u60 u61 u62 u63 u64 u65 u66 u67 u68 u69 u70 u71 u72 u73 hraw
    refine hK _ _ ?_
    exact ns_count (p - m) F raw X neg has first (by omega) hF hX hX2 hraw w0 w HW c0 c1 c2 (.slice (some ⟨g, m, none⟩) l cp) c6 c7 c10 u12 u13 c14 c15 c16 c17 c18 c19 c20 c21 c22 c23 c24 c25 c26 c27 c28 c29 c30 c31 c32 c33 c34 c35 c36 c37 c38 c39 c40 c41 c42 c43 c44 c45 c46 c47 c48 c49 c50 c51 c52 c53 c54 c55 c56 c57 c58 u59 u60 u61 u62 u63 u64 u65 u66 u67 u68 u69 u70 u71 u72 u73 c74 c75 c76 c77 c78 c79 c80 c81 c82 c83 c84 c85 c86 c87 c88 c89 c90 c91 c92 c93 c94 c95 c96 c97 c98 c99 c100 c101 c102 c103 c104 c105 c106 c107 c108
  clear hK
  go_wp2
  go_loopg [11, 61] l (fun gg s11 s61 wr => ∃ j : Nat, s61 = .int .i64 j ∧ s11 = .int .i64 (-1) ∧ j + gg = l ∧ (∀ k, k < j → ¬ Nz (v (m + k))) ∧ wr = w)
  case atStart => exact ⟨0, rfl, rfl, by omega, fun k h => by omega, rfl⟩
  case round =>
    obtain ⟨j, rfl, rfl, hjg, hnz, hwr⟩ := hrel
    subst hwr
    have HZ : Hid (∀ k, k < j → ¬ Nz (v (m + k))) := hnz
    clear hnz
    cases gk with
    | zero =>
      obtain rfl : j = l := by omega
      have HN : Hid (has = false) := fst_none HS.out (fun k hk => HZ.out k (by omega))
      go_wp2
      exact HKK.out (-1) _ _ _ _ _ _ _ _ _ _ _ _ _ _ _ _ _ (Or.inr ⟨HN.out, rfl⟩)
    | succ gg =>
      have hj : j < l := by omega
      have hcj := HR.out.cell (m + j) (by omega)
      obtain ⟨c, hc⟩ : ∃ c, v (m + j) = c := ⟨_, rfl⟩
      rw [hc] at hcj
      by_cases hz : Nz c
      · have HF2 : Hid (has = true ∧ first = if p - m < j then j - 1 else j) := fst_found HS.out hm (by omega) (by rw [hc]; exact hz) HZ.out
        have e1 : (49 : Int) ≤ c := by unfold Nz at hz; omega
        have e2 : (c : Int) ≤ 57 := by unfold Nz at hz; omega
        clear hz hc
        go_wp2
        exact HKK.out j _ _ _ _ _ _ _ _ _ _ _ _ _ _ _ _ _ (Or.inl ⟨HF2.out.1, j, rfl, by omega, HF2.out.2⟩)
      · have HZ2 : Hid (∀ k, k < j + 1 → ¬ Nz (v (m + k))) := fun k hk => by
          rcases Nat.lt_or_ge k j with h | h
          · exact HZ.out k h
          · obtain rfl : k = j := by omega
            rw [hc]; exact hz
        have e : (¬ (49 : Int) ≤ c) ∨ ((49 : Int) ≤ c ∧ ¬ (c : Int) ≤ 57) := by unfold Nz at hz; omega
        clear hz hc HZ
        rcases e with e1 | ⟨e1, e2⟩
        all_goals
          go_wp2
          go_roundg gg
          case measure => omega
          case rel => exact ⟨j + 1, by go_num, rfl, by omega, HZ2.out, rfl⟩

theorem dot_frac {v : Nat → Nat} {m p q l : Nat} {r : Int} (hm : m ≤ p) (hl : m + l = q) (hd : ∀ k, m ≤ k → k < p → Dg (v k)) (hf : FracAt v p q) (h : Dot v m l r) : (r = -1 ∧ q = p) ∨ (r = (p - m : Nat) ∧ p < q) := by
  rcases h with ⟨h1, h2⟩ | ⟨d, h1, h2, h3, h4⟩
  · rcases hf with hf | ⟨hf1, hf2, hf3⟩
    · exact Or.inl ⟨h1, hf⟩
    · exact absurd (by rw [show m + (p - m) = p by omega]; exact hf1) (h2 (p - m) (by omega))
  · rcases Nat.lt_or_ge (m + d) p with h5 | h5
    · have := hd (m + d) (by omega) h5
      rw [h3] at this; unfold Dg at this; omega
    · rcases hf with hf | ⟨hf1, hf2, hf3⟩
      · omega
      · rcases Nat.lt_or_ge p (m + d) with h6 | h6
        · exact absurd (by rw [show m + (p - m) = p by omega]; exact hf1) (h4 (p - m) (by omega))
        · exact Or.inr ⟨by rw [h2]; omega, by omega⟩
set_option linter.unusedVariables false in
set_option maxRecDepth 1000000 in
set_option maxHeartbeats 4000000 in
theorem ns_mant (g N m p q l cp : Nat) (hm : m ≤ p) (hl : m + l = q) (hqN : q ≤ N) (hN : N ≤ 2097160) (v : Nat → Nat) (X : Int) (neg has : Bool) (first : Nat) (hX : -1073741824 ≤ X) (hX2 : X ≤ 1073741824)
    (HD : Hid (∀ k, m ≤ k → k < p → Dg (v k))) (HF : Hid (FracAt v p q)) (hpq : p ≤ q)
    (HS : Hid (Fst v m p q has first)) (w0 w : World) (HW : Hid (∃ k, w = w0.drewN k)) (HR : Hid (Row w g N v)) (c0 c1 c2 c6 c7 c8 c9 c10 c11 c12 c13 c14 c15 c16 c17 c18 c19 c20 c21 c22 c23 c24 c25 c26 c27 c28 c29 c30 c31 c32 c33 c34 c35 c36 c37 c38 c39 c40 c41 c42 c43 c44 c45 c46 c47 c48 c49 c50 c51 c52 c53 c54 c55 c56 c57 c58 c59 c60 c61 c62 c63 c64 c65 c66 c67 c68 c69 c70 c71 c72 c73 c74 c75 c76 c77 c78 c79 c80 c81 c82 c83 c84 c85 c86 c87 c88 c89 c90 c91 c92 c93 c94 c95 c96 c97 c98 c99 c100 c101 c102 c103 c104 c105 c106 c107 c108 : Value) :
    Code.wp Try.prog ns11 (bodyPost Try.prog Try.f29 fun e w' => e = .returned (.int .i64 (NS neg has (p - m) (fracOf p q) first X)) ∧ ∃ k, w' = w0.drewN k) ⟨#[c0, c1, c2, .bool neg, .slice (some ⟨g, m, none⟩) l cp, .int .i64 X, c6, c7, c8, c9, c10, c11, c12, c13, c14, c15, c16, c17, c18, c19, c20, c21, c22, c23, c24, c25, c26, c27, c28, c29, c30, c31, c32, c33, c34, c35, c36, c37, c38, c39, c40, c41, c42, c43, c44, c45, c46, c47, c48, c49, c50, c51, c52, c53, c54, c55, c56, c57, c58, c59, c60, c61, c62, c63, c64, c65, c66, c67, c68, c69, c70, c71, c72, c73, c74, c75, c76, c77, c78, c79, c80, c81, c82, c83, c84, c85, c86, c87, c88, c89, c90, c91, c92, c93, c94, c95, c96, c97, c98, c99, c100, c101, c102, c103, c104, c105, c106, c107, c108], []⟩ w := by
  conv => arg 2; whnf
  go_wp2_with fail
  refine (bi_dot g N m l cp (by omega) v _ HR.out).mono ?_
  rintro e w' ⟨⟨r, rfl, hdot⟩, hw'⟩
  subst hw'
  simp only []
  have hr := dot_frac hm hl HD.out HF.out hdot
  clear hdot
  rcases hr with ⟨rfl, rfl⟩ | ⟨rfl, hlt⟩
  · have Hl : Hid ((l : Int) = (q - m : Nat)) := by show (l : Int) = (q - m : Nat); omega
    have e2 : fracOf q q = 0 := by unfold fracOf; omega
    have HE : Hid (fracOf q q = 0) := e2
    clear e2
    go_upto_region 15 with fail
    go_cut [8, 9, 11] from 200 (fun s8 s9 s11 w1 => s8 = .int .i64 (q - m : Nat) ∧ s9 = .int .i64 (fracOf q q : Nat) ∧ s11 = .int .i64 (-1) ∧ w1 = w')
    case first =>
      go_wp2
      go_meet
      case rel => exact ⟨by rw [← Hl.out], by rw [HE.out]; rfl, rfl, rfl⟩
    case rest =>
      obtain ⟨rfl, rfl, rfl, hwc⟩ := hcut
      subst hwc
      refine (by assumption : ∀ a w, Code.wp _ _ _ a w → _) _ _ ?_
      exact ns_first g N m q q l cp (by omega) hl hqN (by omega) hN v (fracOf q q) X neg has first (by have := HE.out; omega) hX hX2 HS w0 _ HW HR _ _ _ _ _ _ _ _ _ _ _ _ _ _ _ _ _ _ _ _ _ _ _ _ _ _ _ _ _ _ _ _ _ _ _ _ _ _ _ _ _ _ _ _ _ _ _ _ _ _ _ _ _ _ _ _ _ _ _ _ _ _ _ _ _ _ _ _ _ _ _ _ _ _ _ _ _ _ _ _ _ _ _ _ _ _ _ _ _ _ _ _ _ _ _ _ _ _ _ _ _ _ _
  · have hint : p - m < l := by omega
    have HE : Hid (fracOf p q = l - (p - m) - 1) := by show fracOf p q = _; unfold fracOf; omega
    go_upto_region 15 with fail
    go_cut [8, 9, 11] from 200 (fun s8 s9 s11 w1 => s8 = .int .i64 (p - m : Nat) ∧ s9 = .int .i64 (fracOf p q : Nat) ∧ s11 = .int .i64 (-1) ∧ w1 = w')
    case first =>
      go_wp2
      go_meet
      case rel => exact ⟨rfl, by rw [HE.out]; go_num, rfl, rfl⟩
    case rest =>
      obtain ⟨rfl, rfl, rfl, hwc⟩ := hcut
      subst hwc
      refine (by assumption : ∀ a w, Code.wp _ _ _ a w → _) _ _ ?_
      exact ns_first g N m p q l cp hm hl hqN (by omega) hN v (fracOf p q) X neg has first (by have := HE.out; omega) hX hX2 HS w0 _ HW HR _ _ _ _ _ _ _ _ _ _ _ _ _ _ _ _ _ _ _ _ _ _ _ _ _ _ _ _ _ _ _ _ _ _ _ _ _ _ _ _ _ _ _ _ _ _ _ _ _ _ _ _ _ _ _ _ _ _ _ _ _ _ _ _ _ _ _ _ _ _ _ _ _ _ _ _ _ _ _ _ _ _ _ _ _ _ _ _ _ _ _ _ _ _ _ _ _ _ _ _ _ _ _

end Go.Proofs.Qxb6602476a
