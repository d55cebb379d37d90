/-
  WALK: numberSize.
-/
import Derived.Test.Qxb6602476aSt2
namespace Go.Proofs.Qxb6602476a
open Go.RowKit Plain

noncomputable def ns5 : Code := ((Try.f29.body.bind (tailAt 5)).getD .skip)
theorem Row.drewN {w : World} {g N : Nat} {v : Nat → Nat} (h : Row w g N v) (k : Nat) : Row (w.drewN k) g N v := ⟨h.small, h.cell⟩
/-- parseExponent behind the mark. -/
theorem pe_expo (g N m j L cp q e : Nat) (X : Int) (v : Nat → Nat) (he : e ≤ N) (hN2 : N ≤ 2097160) (hj : m + j = q) (hL : m + L = e) (hcp : L ≤ cp) (hx : Expo v q e X) (hq : q < e) (w : World) (hr : Row w g N v) :
    (v q = 101 ∨ v q = 69) ∧ j + 1 < L ∧ Calls Try.prog 28 #[.slice (some ⟨g, m + (j + 1), none⟩) (L - (j + 1)) (cp - (j + 1))] w fun e w' => e = .returned (.int .i64 X) ∧ w' = w := by
  have ez : m + (j + 1) = q + 1 := by omega
  rw [ez]
  cases hx with
  | none h => omega
  | plain h1 h2 h3 =>
    refine ⟨h1, by omega, ?_⟩
    have := pe_any g N (q + 1) (L - (j + 1)) (cp - (j + 1)) (q + 1) (e - (q + 1)) false (by omega) (by omega) hN2 (by omega) v (Or.inl ⟨?_, ?_, rfl, rfl⟩) (by omega) (by omega) (fun k k1 k2 => h3 k k1 (by omega)) w hr
    · exact this
    · have := h3 (q + 1) (by omega) (by omega); unfold Dg at this; omega
    · have := h3 (q + 1) (by omega) (by omega); unfold Dg at this; omega
  | plus h1 h2 h3 h4 =>
    refine ⟨h1, by omega, ?_⟩
    exact pe_any g N (q + 1) (L - (j + 1)) (cp - (j + 1)) (q + 2) (e - (q + 2)) false (by omega) (by omega) hN2 (by omega) v (Or.inr (Or.inl ⟨h2, rfl, rfl⟩)) (by omega) (by omega) (fun k k1 k2 => h4 k k1 (by omega)) w hr
  | minus h1 h2 h3 h4 =>
    refine ⟨h1, by omega, ?_⟩
    exact pe_any g N (q + 1) (L - (j + 1)) (cp - (j + 1)) (q + 2) (e - (q + 2)) true (by omega) (by omega) hN2 (by omega) v (Or.inr (Or.inr ⟨h2, rfl, rfl⟩)) (by omega) (by omega) (fun k k1 k2 => h4 k k1 (by omega)) w hr
theorem mant_not_e {v : Nat → Nat} {m p q k : Nat} (hd : ∀ k, m ≤ k → k < p → Dg (v k)) (hf : FracAt v p q) (h1 : m ≤ k) (h2 : k < q) : v k ≠ 101 ∧ v k ≠ 69 := by
  rcases Nat.lt_or_ge k p with h | h
  · have := hd k h1 h; unfold Dg at this; omega
  · rcases hf with hf | ⟨hf1, hf2, hf3⟩
    · omega
    · rcases Nat.lt_or_ge p k with h3 | h3
      · have := hf3 k h3 h2; unfold Dg at this; omega
      · obtain rfl : k = p := by omega
        omega

set_option linter.unusedVariables false in
set_option maxRecDepth 1000000 in
set_option maxHeartbeats 4000000 in
theorem ns_expo (g N m p q e L cp : Nat) (hm : m ≤ p) (hL : m + L = e) (heN : e ≤ N) (hN : N ≤ 2097160) (hcp : L ≤ cp) (v : Nat → Nat) (X : Int) (neg has : Bool) (first : Nat)
    (HX : Hid (Expo v q e X)) (HD : Hid (∀ k, m ≤ k → k < p → Dg (v k))) (HF : Hid (FracAt v p q)) (hpq : p ≤ q)
    (HS : Hid (Fst v m p q has first)) (w : World) (HR : Hid (Row w g N v)) (c1 c2 c6 c7 c8 c9 c10 c11 c12 c13 c14 c15 c16 c17 c18 c19 c20 c21 c22 c23 c24 c25 c26 c27 c28 c29 c30 c31 c32 c33 c34 c35 c36 c37 c38 c39 c40 c41 c42 c43 c44 c45 c46 c47 c48 c49 c50 c51 c52 c53 c54 c55 c56 c57 c58 c59 c60 c61 c62 c63 c64 c65 c66 c67 c68 c69 c70 c71 c72 c73 c74 c75 c76 c77 c78 c79 c80 c81 c82 c83 c84 c85 c86 c87 c88 c89 c90 c91 c92 c93 c94 c95 c96 c97 c98 c99 c100 c101 c102 c103 c104 c105 c106 c107 c108 : Value) :
    Code.wp Try.prog ns5 (bodyPost Try.prog Try.f29 fun e w' => e = .returned (.int .i64 (NS neg has (p - m) (fracOf p q) first X)) ∧ ∃ k, w' = w.drewN k) ⟨#[.slice (some ⟨g, m, none⟩) L cp, c1, c2, .bool neg, .slice (some ⟨g, m, none⟩) L cp, .int .i64 0, c6, c7, c8, c9, c10, c11, c12, c13, c14, c15, c16, c17, c18, c19, c20, c21, c22, c23, c24, c25, c26, c27, c28, c29, c30, c31, c32, c33, c34, c35, c36, c37, c38, c39, c40, c41, c42, c43, c44, c45, c46, c47, c48, c49, c50, c51, c52, c53, c54, c55, c56, c57, c58, c59, c60, c61, c62, c63, c64, c65, c66, c67, c68, c69, c70, c71, c72, c73, c74, c75, c76, c77, c78, c79, c80, c81, c82, c83, c84, c85, c86, c87, c88, c89, c90, c91, c92, c93, c94, c95, c96, c97, c98, c99, c100, c101, c102, c103, c104, c105, c106, c107, c108], []⟩ w := by
  conv => arg 2; whnf
  have hab := HX.out.abs
  obtain ⟨hx1, hx2, hqe⟩ := hab
  refine wp_seq_k fun K hK => ?_
  have HKK : Hid (∀ (l cp2 : Nat) (s4 : Value) (w1 : World) (u6 u7 u25 u26 u27 u28 u29 u30 u31 u32 u33 u34 u35 u36 u37 u38 u39 u40 u41 u42 u43 u44 u45 u46 : Value), s4 = .slice (some ⟨g, m, none⟩) l cp2 → m + l = q → (∃ k, w1 = w.drewN k) → K ⟨#[.slice (some ⟨g, m, none⟩) L cp, c1, c2, .bool neg, s4, .int .i64 X, u6, u7, c8, c9, c10, c11, c12, c13, c14, c15, c16, c17, c18, c19, c20, c21, c22, c23, c24, u25, u26, u27, u28, u29, u30, u31, u32, u33, u34, u35, u36, u37, u38, u39, u40, u41, u42, u43, u44, u45, u46, c47, c48, c49, c50, c51, c52, c53, c54, c55, c56, c57, c58, c59, c60, c61, c62, c63, c64, c65, c66, c67, c68, c69, c70, c71, c72, c73, c74, c75, c76, c77, c78, c79, c80, c81, c82, c83, c84, c85, c86, c87, c88, c89, c90, c91, c92, c93, c94, c95, c96, c97, c98, c99, c100, c101, c102, c103, c104, c105, c106, c107, c108], []⟩ w1) := by
    intro l cp2 s4 w1 u6 u7 u25 u26 u27 u28 u29 u30 u31 u32 u33 u34 u35 u36 u37 u38 u39 u40 u41 u42 u43 u44 u45 u46 hs4 hl hw
    subst hs4
    refine hK _ _ ?_
    have hr1 : Row w1 g N v := by obtain ⟨k, rfl⟩ := hw; exact HR.out.drewN k
    exact ns_mant g N m p q l cp2 hm hl (by omega) hN v X neg has first hx1 hx2 HD HF hpq HS w w1 hw hr1 (.slice (some ⟨g, m, none⟩) L cp) c1 c2 u6 u7 c8 c9 c10 c11 c12 c13 c14 c15 c16 c17 c18 c19 c20 c21 c22 c23 c24 u25 u26 u27 u28 u29 u30 u31 u32 u33 u34 u35 u36 u37 u38 u39 u40 u41 u42 u43 u44 u45 u46 c47 c48 c49 c50 c51 c52 c53 c54 c55 c56 c57 c58 c59 c60 c61 c62 c63 c64 c65 c66 c67 c68 c69 c70 c71 c72 c73 c74 c75 c76 c77 c78 c79 c80 c81 c82 c83 c84 c85 c86 c87 c88 c89 c90 c91 c92 c93 c94 c95 c96 c97 c98 c99 c100 c101 c102 c103 c104 c105 c106 c107 c108
  clear hK HS
  go_wp2
  go_loopg [4, 5, 27] L (fun gg s4 s5 s27 wr => ∃ j : Nat, s27 = .int .i64 j ∧ s4 = .slice (some ⟨g, m, none⟩) L cp ∧ s5 = .int .i64 0 ∧ j + gg = L ∧ m + j ≤ q ∧ wr = w)
  case atStart => exact ⟨0, rfl, rfl, rfl, by omega, by omega, rfl⟩
  case round =>
    obtain ⟨j, rfl, rfl, rfl, hjg, hjq, hwr⟩ := hrel
    subst hwr
    by_cases hlt : m + j < q
    · have hj : j < L := by omega
      have hcj := HR.out.cell (m + j) (by omega)
      have hne := mant_not_e HD.out HF.out (k := m + j) (by omega) hlt
      obtain ⟨c, hc⟩ : ∃ c, v (m + j) = c := ⟨_, rfl⟩
      rw [hc] at hcj hne
      have e1 : ((c : Int) == 101) = false := by rw [beq_eq_false_iff_ne]; omega
      have e2 : ((c : Int) == 69) = false := by rw [beq_eq_false_iff_ne]; omega
      clear hc hne
      go_wp2
      go_roundg (L - (j + 1))
      case measure => omega
      case rel => exact ⟨j + 1, by go_num, rfl, rfl, by omega, by omega, rfl⟩
    · have Hq : Hid (m + j = q) := by show m + j = q; omega
      by_cases hend : q = e
      · have hX0 : X = 0 := by
          cases HX.out with
          | none h => rfl
          | plain h1 h2 h3 => omega
          | plus h1 h2 h3 h4 => omega
          | minus h1 h2 h3 h4 => omega
        have hjL : j = L := by have := Hq.out; omega
        clear hjq hlt hend
        subst hX0 hjL
        go_wp2
        exact HKK.out j cp _ _ _ _ _ _ _ _ _ _ _ _ _ _ _ _ _ _ _ _ _ _ _ _ _ _ rfl Hq.out ⟨0, rfl⟩
      · have hqlt : q < e := by omega
        obtain ⟨hv, hjL, _⟩ := pe_expo g N m j L cp q e X v heN hN Hq.out hL hcp HX.out hqlt _ HR.out
        have hp := fun n => (pe_expo g N m j L cp q e X v heN hN Hq.out hL hcp HX.out hqlt _ (HR.out.drewN n)).2.2
        have HP : Hid (∀ n, _) := hp
        have hcj := HR.out.cell (m + j) (by omega)
        rw [Hq.out] at hcj
        rw [← Hq.out] at hcj
        have hv2 : v (m + j) = 101 ∨ v (m + j) = 69 := by rw [Hq.out]; exact hv
        clear hp hv hlt hjq hend
        rcases hv2 with h1 | h1
        all_goals
          rw [h1] at hcj
          clear h1
          go_wp2
          go_quiet ((go_at_call 28; exact Calls.quiet_of_same (HP.out _)))
          go_wp2
          exact HKK.out j cp _ _ _ _ _ _ _ _ _ _ _ _ _ _ _ _ _ _ _ _ _ _ _ _ _ _ rfl Hq.out ⟨_, rfl⟩

end Go.Proofs.Qxb6602476a
