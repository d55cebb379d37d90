/-
  WALK: FnStoredSizeAddsUpInArray.
-/
import Derived.Test.Qxb6602476aLaw9
import Derived.Test.Qxb6602476aJoin
namespace Go.Proofs.Qxb6602476a
open Go.RowKit Plain

/-- A copy: nil, or a row at the head of its block. -/
structure Cl (w : World) (ao : Option Addr) (n : Nat) (v : Nat → Nat) : Prop where
  small : ∀ i, v i < 256
  at' : (ao = none ∧ n = 0) ∨ ∃ g, ao = some ⟨g, 0, none⟩ ∧ g < w.heap.size ∧ Row w g n v
theorem Row.below {w wr : World} {g n : Nat} {v : Nat → Nat} (h : Row w g n v) (hg : g < w.heap.size) (hb : Below w.heap.size w wr) : Row wr g n v :=
  ⟨h.small, fun k hk => by rw [hb.cell (p := ⟨g, k, none⟩) hg]; exact h.cell k hk⟩
theorem Cl.below {w wr : World} {ao : Option Addr} {n : Nat} {v : Nat → Nat} (h : Cl w ao n v) (hb : Below w.heap.size w wr) : Cl wr ao n v := by
  refine ⟨h.small, ?_⟩
  rcases h.at' with h1 | ⟨g, h1, h2, h3⟩
  · exact Or.inl h1
  · exact Or.inr ⟨g, h1, Nat.lt_of_lt_of_le h2 hb.size, h3.below h2 hb⟩
theorem Cl.drewN {w : World} {ao : Option Addr} {n : Nat} {v : Nat → Nat} (h : Cl w ao n v) (k : Nat) : Cl (w.drewN k) ao n v := h.below (below_drewN (Below.refl _ _) k)
theorem Cl.cell {w : World} {ao : Option Addr} {n : Nat} {v : Nat → Nat} (h : Cl w ao n v) {k : Nat} (hk : k < n) : ∃ g, ao = some ⟨g, 0, none⟩ ∧ w.cell? ⟨g, k, none⟩ = some (.int .u8 (v k)) := by
  rcases h.at' with ⟨_, h1⟩ | ⟨g, h1, _, h3⟩
  · omega
  · exact ⟨g, h1, h3.cell k hk⟩
theorem clone_cl (a : Option Addr) (n cap : Nat) (hn : n ≤ 2097152) (v : Nat → Nat) (w : World) (hb : Bts w a n v) (hnil : a = none → n = 0 ∧ cap = 0) :
    Calls Try.prog 13 #[.slice a n cap] w fun e w' => (∃ ao, e = .returned (.slice ao n n) ∧ Cl w' ao n v) ∧ Below w.heap.size w w' := by
  refine (zzClone_any a n cap hn v w hb hnil).mono ?_
  rintro e w' h
  rcases h with ⟨rfl, rfl, rfl⟩ | ⟨g, rfl, _, h2, h3, h4⟩
  · obtain ⟨rfl, rfl⟩ := hnil rfl
    exact ⟨⟨none, rfl, hb.small, Or.inl ⟨rfl, rfl⟩⟩, Below.refl _ _⟩
  · exact ⟨⟨_, rfl, hb.small, Or.inr ⟨g, rfl, h2, h3⟩⟩, h4⟩
theorem zss_cl (ao : Option Addr) (n : Nat) (hn : n ≤ 2097152) (v : Nat → Nat) (S : Int) (hr : Plain.Reach v n n S) (w : World) (hc : Cl w ao n v) :
    Calls Try.prog 26 #[.slice ao n n] w fun en w' => en = .returned (.int .i64 S) ∧ ∃ k, w' = w.drewN k := by
  rcases hc.at' with ⟨rfl, rfl⟩ | ⟨g, rfl, h2, h3⟩
  · have := tok_end hr.all
    subst this
    exact zss_nil w
  · exact zss_any g n n hn (Nat.le_refl _) v S hr.all w h2 h3
theorem reach_bound {v : Nat → Nat} {n i : Nat} {s : Int} (h : Plain.Reach v n i s) : 0 ≤ s ∧ s ≤ i * 4294967296 := by
  induction h with
  | start => omega
  | step h1 h2 ih =>
    have h3 := step_cost h2
    have h4 := h2.bound
    omega

/-- The list's row, filled up to J. -/
structure Fill (w4 wr : World) (g N : Nat) (u : Nat → Nat) (J : Nat) : Prop where
  own : ∃ xs : List Value, wr.ownsRow g 5 1 (.slice (some ⟨g, 0, none⟩) N N) N xs ∧ ∀ k, k < J → xs[k]? = some (.int .u8 (u k))
  bel : Below w4.heap.size w4 wr
theorem Fill.facts {w4 wr : World} {g N J : Nat} {u : Nat → Nat} (h : Fill w4 wr g N u J) (hg : g = w4.heap.size) (hJ : J < N) (c : Nat) (hc : u J = c) :
    (∃ y, wr.cell? ⟨g, J, none⟩ = some y) ∧ wr.frozen? ⟨g, J, none⟩ = false ∧ Fill w4 (wr.setCell ⟨g, J, none⟩ (.int .u8 c)) g N u (J + 1) := by
  obtain ⟨xs, h1, h2⟩ := h.own
  have hl : xs.length = N := by have := h1.1; omega
  refine ⟨⟨xs[J]'(by omega), ?_⟩, h1.frozenAt J, ⟨xs.set J (.int .u8 c), (h1.stored J _).1, fun k hk => ?_⟩, h.bel.setCell (by show w4.heap.size ≤ g; omega) _⟩
  · rw [h1.cellAt J (by omega)]; exact List.getElem?_eq_getElem (by omega)
  · rw [List.getElem?_set]
    by_cases hkj : J = k
    · subst hkj; rw [if_pos rfl, if_pos (by omega), hc]
    · rw [if_neg hkj]; exact h2 k (by omega)
theorem Fill.row {w4 wr : World} {g N : Nat} {u : Nat → Nat} (h : Fill w4 wr g N u N) (hu : ∀ i, u i < 256) : Row wr g N u ∧ g < wr.heap.size := by
  obtain ⟨xs, h1, h2⟩ := h.own
  exact ⟨⟨hu, fun k hk => by rw [h1.cellAt k (by omega)]; exact h2 k hk⟩, (h1.lt g rfl).2⟩

noncomputable def ad22 : Code := ((Try.f10.body.bind (tailAt 22)).getD .skip)
noncomputable def ad18 : Code := ((Try.f10.body.bind (tailAt 18)).getD .skip)
noncomputable def ad13 : Code := ((Try.f10.body.bind (tailAt 13)).getD .skip)

set_option linter.unusedVariables false in
set_option maxRecDepth 1000000 in
set_option maxHeartbeats 4000000 in
theorem ad_end (w0 w4 : World) (HL0 : Hid (Below w0.heap.size w0 w4)) (g : Nat) (HG : Hid (g = w4.heap.size)) (ao bo : Option Addr) (na nb : Nat) (hn : na + nb ≤ 1048576) (va vb : Nat → Nat) (HCa : Hid (Cl w4 ao na va)) (HCb : Hid (Cl w4 bo nb vb)) (sa sb : Int) (HTa : Hid (Plain.Reach va na na sa)) (HTb : Hid (Plain.Reach vb nb nb sb)) (ha0 : 0 ≤ sa) (ha1 : sa ≤ 9007199254740992) (hb0 : 0 ≤ sb) (hb1 : sb ≤ 9007199254740992) (wr : World)
    (HF : Hid (Fill w4 wr g (na + nb + 3) (join na nb va vb) (2 + na + nb))) (c2 c3 c4 c5 c6 c7 c8 c9 c10 c12 c13 c14 c15 c16 c17 c18 c19 c20 c21 c22 c23 c24 c25 c26 c27 c28 c29 c30 c31 c32 c33 c34 c35 c36 c37 c38 c39 c40 c41 c42 c43 c44 c45 c46 c47 c48 c49 c50 c51 c52 c53 c54 c55 c56 c57 c58 c59 c60 c61 c62 c63 c64 c65 c66 c67 c68 c69 c70 c71 c72 c73 c74 c75 c76 c77 c78 c79 c80 c81 c82 c83 c84 c85 c86 c87 c88 c89 c90 c91 c92 c93 c94 c95 c96 c97 c98 c99 c100 c101 c102 c103 c104 c105 c106 c107 c108 c109 c110 c111 c112 c113 c114 c115 c116 c117 : Value) :
    Code.wp Try.prog ad22 (bodyPost Try.prog Try.f10 fun e w' => e = .returned (.bool true) ∧ Below w0.heap.size w0 w') ⟨#[.slice ao na na, .slice bo nb nb, c2, c3, c4, c5, c6, c7, c8, c9, c10, .slice (some ⟨g, 0, none⟩) (na + nb + 3) (na + nb + 3), c12, c13, c14, c15, c16, c17, c18, c19, c20, c21, c22, c23, c24, c25, c26, c27, c28, c29, c30, c31, c32, c33, c34, c35, c36, c37, c38, c39, c40, c41, c42, c43, c44, c45, c46, c47, c48, c49, c50, c51, c52, c53, c54, c55, c56, c57, c58, c59, c60, c61, c62, c63, c64, c65, c66, c67, c68, c69, c70, c71, c72, c73, c74, c75, c76, c77, c78, c79, c80, c81, c82, c83, c84, c85, c86, c87, c88, c89, c90, c91, c92, c93, c94, c95, c96, c97, c98, c99, c100, c101, c102, c103, c104, c105, c106, c107, c108, c109, c110, c111, c112, c113, c114, c115, c116, c117], []⟩ wr := by
  conv => arg 2; whnf
  obtain ⟨⟨y, hy⟩, hfz, hf2⟩ := HF.out.facts HG.out (by omega) 93 (join_z na nb va vb)
  have HF2 : Hid (Fill w4 (wr.setCell ⟨g, 2 + na + nb, none⟩ (.int .u8 93)) g (na + nb + 3) (join na nb va vb) (na + nb + 3)) := by
    have e : 2 + na + nb + 1 = na + nb + 3 := by omega
    rw [e] at hf2; exact hf2
  clear hf2
  go_wp2_with fail
  obtain ⟨w5, hw5⟩ : ∃ w5, wr.setCell ⟨g, 2 + na + nb, none⟩ (.int .u8 93) = w5 := ⟨_, rfl⟩
  rw [hw5] at HF2
  rw [hw5]
  clear hw5 hy hfz HF
  obtain ⟨hrow, hlt⟩ := HF2.out.row (join_small HCa.out.small HCb.out.small)
  have HB5 : Hid (Below w4.heap.size w4 w5) := HF2.out.bel
  have hws : w4.heap.size ≤ w5.heap.size := HF2.out.bel.size
  refine (zss_any g (na + nb + 3) (na + nb + 3) (by omega) (Nat.le_refl _) _ (sa + sb + 3) (join_tok HTa.out HTb.out) _ hlt hrow).mono ?_
  clear hrow hlt HF2
  rintro e w6 ⟨rfl, k6, hw6⟩
  subst hw6
  simp only []
  go_wp2_with fail
  refine (zss_cl ao na (by omega) va sa HTa.out _ ((HCa.out.below HB5.out).drewN k6)).mono ?_
  rintro e w7 ⟨rfl, k7, hw7⟩
  subst hw7
  simp only []
  go_wp2_with fail
  refine (zss_cl bo nb (by omega) vb sb HTb.out _ ((HCb.out.below HB5.out).drewN (k6 + k7))).mono ?_
  rintro e w8 ⟨rfl, k8, hw8⟩
  subst hw8
  simp only []
  go_wp2
  go_ret
  exact ⟨rfl, below_drewN (HL0.out.trans (HB5.out.mono HL0.out.size)) _⟩

noncomputable def ad17 : Code := ((Try.f10.body.bind (tailAt 17)).getD .skip)

set_option linter.unusedVariables false in
set_option maxRecDepth 1000000 in
set_option maxHeartbeats 4000000 in
theorem ad_b (w0 w4 : World) (HL0 : Hid (Below w0.heap.size w0 w4)) (g : Nat) (HG : Hid (g = w4.heap.size)) (ao bo : Option Addr) (na nb : Nat) (hn : na + nb ≤ 1048576) (va vb : Nat → Nat) (HCa : Hid (Cl w4 ao na va)) (HCb : Hid (Cl w4 bo nb vb)) (sa sb : Int) (HTa : Hid (Plain.Reach va na na sa)) (HTb : Hid (Plain.Reach vb nb nb sb)) (ha0 : 0 ≤ sa) (ha1 : sa ≤ 9007199254740992) (hb0 : 0 ≤ sb) (hb1 : sb ≤ 9007199254740992) (wr : World)
    (HF : Hid (Fill w4 wr g (na + nb + 3) (join na nb va vb) (2 + na))) (c2 c3 c4 c5 c6 c7 c8 c9 c10 c12 c13 c14 c15 c16 c17 c18 c19 c20 c21 c22 c23 c24 c25 c26 c27 c28 c29 c30 c31 c32 c33 c34 c35 c36 c37 c38 c39 c40 c41 c42 c43 c44 c45 c46 c47 c48 c49 c50 c51 c52 c53 c54 c55 c56 c57 c58 c59 c60 c61 c62 c63 c64 c65 c66 c67 c68 c69 c70 c71 c72 c73 c74 c75 c76 c77 c78 c79 c80 c81 c82 c83 c84 c85 c86 c87 c88 c89 c90 c91 c92 c93 c94 c95 c96 c97 c98 c99 c100 c101 c102 c103 c104 c105 c106 c107 c108 c109 c110 c111 c112 c113 c114 c115 c116 c117 : Value) :
    Code.wp Try.prog ad18 (bodyPost Try.prog Try.f10 fun e w' => e = .returned (.bool true) ∧ Below w0.heap.size w0 w') ⟨#[.slice ao na na, .slice bo nb nb, c2, c3, c4, c5, c6, c7, c8, c9, c10, .slice (some ⟨g, 0, none⟩) (na + nb + 3) (na + nb + 3), c12, c13, c14, c15, c16, c17, c18, c19, c20, c21, c22, c23, c24, c25, c26, c27, c28, c29, c30, c31, c32, c33, c34, c35, c36, c37, c38, c39, c40, c41, c42, c43, c44, c45, c46, c47, c48, c49, c50, c51, c52, c53, c54, c55, c56, c57, c58, c59, c60, c61, c62, c63, c64, c65, c66, c67, c68, c69, c70, c71, c72, c73, c74, c75, c76, c77, c78, c79, c80, c81, c82, c83, c84, c85, c86, c87, c88, c89, c90, c91, c92, c93, c94, c95, c96, c97, c98, c99, c100, c101, c102, c103, c104, c105, c106, c107, c108, c109, c110, c111, c112, c113, c114, c115, c116, c117], []⟩ wr := by
  conv => arg 2; whnf
  refine wp_seq_k fun K hK => ?_
  have HKK : Hid (∀ (wr : World) (u13 u84 u85 u86 u87 u88 u89 u90 u91 u92 u93 u94 u95 u96 u97 u98 u99 u100 : Value), Fill w4 wr g (na + nb + 3) (join na nb va vb) (2 + na + nb) → K ⟨#[.slice ao na na, .slice bo nb nb, c2, c3, c4, c5, c6, c7, c8, c9, c10, .slice (some ⟨g, 0, none⟩) (na + nb + 3) (na + nb + 3), c12, u13, c14, c15, c16, c17, c18, c19, c20, c21, c22, c23, c24, c25, c26, c27, c28, c29, c30, c31, c32, c33, c34, c35, c36, c37, c38, c39, c40, c41, c42, c43, c44, c45, c46, c47, c48, c49, c50, c51, c52, c53, c54, c55, c56, c57, c58, c59, c60, c61, c62, c63, c64, c65, c66, c67, c68, c69, c70, c71, c72, c73, c74, c75, c76, c77, c78, c79, c80, c81, c82, c83, u84, u85, u86, u87, u88, u89, u90, u91, u92, u93, u94, u95, u96, u97, u98, u99, u100, c101, c102, c103, c104, c105, c106, c107, c108, c109, c110, c111, c112, c113, c114, c115, c116, c117], []⟩ wr) := by
    intro wr u13 u84 u85 u86 u87 u88 u89 u90 u91 u92 u93 u94 u95 u96 u97 u98 u99 u100 hf
    refine hK _ _ ?_
    exact ad_end w0 w4 HL0 g HG ao bo na nb hn va vb HCa HCb sa sb HTa HTb ha0 ha1 hb0 hb1 wr hf c2 c3 c4 c5 c6 c7 c8 c9 c10 c12 u13 c14 c15 c16 c17 c18 c19 c20 c21 c22 c23 c24 c25 c26 c27 c28 c29 c30 c31 c32 c33 c34 c35 c36 c37 c38 c39 c40 c41 c42 c43 c44 c45 c46 c47 c48 c49 c50 c51 c52 c53 c54 c55 c56 c57 c58 c59 c60 c61 c62 c63 c64 c65 c66 c67 c68 c69 c70 c71 c72 c73 c74 c75 c76 c77 c78 c79 c80 c81 c82 c83 u84 u85 u86 u87 u88 u89 u90 u91 u92 u93 u94 u95 u96 u97 u98 u99 u100 c101 c102 c103 c104 c105 c106 c107 c108 c109 c110 c111 c112 c113 c114 c115 c116 c117
  clear hK HTa HTb HL0
  go_wp2
  go_loopg [13] nb (fun gg s13 wr' => ∃ j : Nat, s13 = .int .i64 j ∧ j + gg = nb ∧ Fill w4 wr' g (na + nb + 3) (join na nb va vb) (2 + na + j))
  case atStart => exact ⟨0, rfl, by omega, HF.out⟩
  case round =>
    obtain ⟨j, rfl, hjg, hf⟩ := hrel
    have HF2 : Hid (Fill w4 wr g (na + nb + 3) (join na nb va vb) (2 + na + j)) := hf
    clear hf HF
    cases gk with
    | zero =>
      obtain rfl : j = nb := by omega
      go_wp2
      exact HKK.out _ _ _ _ _ _ _ _ _ _ _ _ _ _ _ _ _ _ _ HF2.out
    | succ gg =>
      have hj : j < nb := by omega
      obtain ⟨gb, hbo, hcj⟩ := (HCb.out.below HF2.out.bel).cell hj
      obtain ⟨c, hc⟩ : ∃ c, vb j = c := ⟨_, rfl⟩
      rw [hc] at hcj
      obtain ⟨⟨y, hy⟩, hfz, hf2⟩ := HF2.out.facts HG.out (by omega) c (by rw [join_b na nb va vb j hj]; exact hc)
      have HF3 : Hid (Fill w4 (wr.setCell ⟨g, 2 + na + j, none⟩ (.int .u8 c)) g (na + nb + 3) (join na nb va vb) (2 + na + (j + 1))) := hf2
      clear hf2 hc
      subst hbo
      go_wp2
      go_roundg gg
      case measure => omega
      case rel => exact ⟨j + 1, by go_num, by omega, HF3.out⟩

set_option linter.unusedVariables false in
set_option maxRecDepth 1000000 in
set_option maxHeartbeats 4000000 in
theorem ad_c (w0 w4 : World) (HL0 : Hid (Below w0.heap.size w0 w4)) (g : Nat) (HG : Hid (g = w4.heap.size)) (ao bo : Option Addr) (na nb : Nat) (hn : na + nb ≤ 1048576) (va vb : Nat → Nat) (HCa : Hid (Cl w4 ao na va)) (HCb : Hid (Cl w4 bo nb vb)) (sa sb : Int) (HTa : Hid (Plain.Reach va na na sa)) (HTb : Hid (Plain.Reach vb nb nb sb)) (ha0 : 0 ≤ sa) (ha1 : sa ≤ 9007199254740992) (hb0 : 0 ≤ sb) (hb1 : sb ≤ 9007199254740992) (wr : World)
    (HF : Hid (Fill w4 wr g (na + nb + 3) (join na nb va vb) (1 + na))) (c2 c3 c4 c5 c6 c7 c8 c9 c10 c12 c13 c14 c15 c16 c17 c18 c19 c20 c21 c22 c23 c24 c25 c26 c27 c28 c29 c30 c31 c32 c33 c34 c35 c36 c37 c38 c39 c40 c41 c42 c43 c44 c45 c46 c47 c48 c49 c50 c51 c52 c53 c54 c55 c56 c57 c58 c59 c60 c61 c62 c63 c64 c65 c66 c67 c68 c69 c70 c71 c72 c73 c74 c75 c76 c77 c78 c79 c80 c81 c82 c83 c84 c85 c86 c87 c88 c89 c90 c91 c92 c93 c94 c95 c96 c97 c98 c99 c100 c101 c102 c103 c104 c105 c106 c107 c108 c109 c110 c111 c112 c113 c114 c115 c116 c117 : Value) :
    Code.wp Try.prog ad17 (bodyPost Try.prog Try.f10 fun e w' => e = .returned (.bool true) ∧ Below w0.heap.size w0 w') ⟨#[.slice ao na na, .slice bo nb nb, c2, c3, c4, c5, c6, c7, c8, c9, c10, .slice (some ⟨g, 0, none⟩) (na + nb + 3) (na + nb + 3), c12, c13, c14, c15, c16, c17, c18, c19, c20, c21, c22, c23, c24, c25, c26, c27, c28, c29, c30, c31, c32, c33, c34, c35, c36, c37, c38, c39, c40, c41, c42, c43, c44, c45, c46, c47, c48, c49, c50, c51, c52, c53, c54, c55, c56, c57, c58, c59, c60, c61, c62, c63, c64, c65, c66, c67, c68, c69, c70, c71, c72, c73, c74, c75, c76, c77, c78, c79, c80, c81, c82, c83, c84, c85, c86, c87, c88, c89, c90, c91, c92, c93, c94, c95, c96, c97, c98, c99, c100, c101, c102, c103, c104, c105, c106, c107, c108, c109, c110, c111, c112, c113, c114, c115, c116, c117], []⟩ wr := by
  conv => arg 2; whnf
  refine wp_seq_k fun K hK => ?_
  have HKh : Hid (∀ a w, _) := hK
  clear hK
  obtain ⟨⟨y, hy⟩, hfz, hf2⟩ := HF.out.facts HG.out (by omega) 44 (join_c na nb va vb)
  have HF2 : Hid (Fill w4 (wr.setCell ⟨g, 1 + na, none⟩ (.int .u8 44)) g (na + nb + 3) (join na nb va vb) (2 + na)) := by
    have e : 1 + na + 1 = 2 + na := by omega
    rw [e] at hf2; exact hf2
  clear hf2
  go_wp2
  refine HKh.out _ _ ?_
  exact ad_b w0 w4 HL0 g HG ao bo na nb hn va vb HCa HCb sa sb HTa HTb ha0 ha1 hb0 hb1 _ HF2 _ _ _ _ _ _ _ _ _ _ _ _ _ _ _ _ _ _ _ _ _ _ _ _ _ _ _ _ _ _ _ _ _ _ _ _ _ _ _ _ _ _ _ _ _ _ _ _ _ _ _ _ _ _ _ _ _ _ _ _ _ _ _ _ _ _ _ _ _ _ _ _ _ _ _ _ _ _ _ _ _ _ _ _ _ _ _ _ _ _ _ _ _ _ _ _ _ _ _ _ _ _ _ _ _ _ _ _ _ _ _ _ _ _ _

set_option linter.unusedVariables false in
set_option maxRecDepth 1000000 in
set_option maxHeartbeats 4000000 in
theorem ad_a (w0 w4 : World) (HL0 : Hid (Below w0.heap.size w0 w4)) (g : Nat) (HG : Hid (g = w4.heap.size)) (ao bo : Option Addr) (na nb : Nat) (hn : na + nb ≤ 1048576) (va vb : Nat → Nat) (HCa : Hid (Cl w4 ao na va)) (HCb : Hid (Cl w4 bo nb vb)) (sa sb : Int) (HTa : Hid (Plain.Reach va na na sa)) (HTb : Hid (Plain.Reach vb nb nb sb)) (ha0 : 0 ≤ sa) (ha1 : sa ≤ 9007199254740992) (hb0 : 0 ≤ sb) (hb1 : sb ≤ 9007199254740992) (wr : World)
    (HF : Hid (Fill w4 wr g (na + nb + 3) (join na nb va vb) 1)) (c2 c3 c4 c5 c6 c7 c8 c9 c10 c12 c13 c14 c15 c16 c17 c18 c19 c20 c21 c22 c23 c24 c25 c26 c27 c28 c29 c30 c31 c32 c33 c34 c35 c36 c37 c38 c39 c40 c41 c42 c43 c44 c45 c46 c47 c48 c49 c50 c51 c52 c53 c54 c55 c56 c57 c58 c59 c60 c61 c62 c63 c64 c65 c66 c67 c68 c69 c70 c71 c72 c73 c74 c75 c76 c77 c78 c79 c80 c81 c82 c83 c84 c85 c86 c87 c88 c89 c90 c91 c92 c93 c94 c95 c96 c97 c98 c99 c100 c101 c102 c103 c104 c105 c106 c107 c108 c109 c110 c111 c112 c113 c114 c115 c116 c117 : Value) :
    Code.wp Try.prog ad13 (bodyPost Try.prog Try.f10 fun e w' => e = .returned (.bool true) ∧ Below w0.heap.size w0 w') ⟨#[.slice ao na na, .slice bo nb nb, c2, c3, c4, c5, c6, c7, c8, c9, c10, .slice (some ⟨g, 0, none⟩) (na + nb + 3) (na + nb + 3), c12, c13, c14, c15, c16, c17, c18, c19, c20, c21, c22, c23, c24, c25, c26, c27, c28, c29, c30, c31, c32, c33, c34, c35, c36, c37, c38, c39, c40, c41, c42, c43, c44, c45, c46, c47, c48, c49, c50, c51, c52, c53, c54, c55, c56, c57, c58, c59, c60, c61, c62, c63, c64, c65, c66, c67, c68, c69, c70, c71, c72, c73, c74, c75, c76, c77, c78, c79, c80, c81, c82, c83, c84, c85, c86, c87, c88, c89, c90, c91, c92, c93, c94, c95, c96, c97, c98, c99, c100, c101, c102, c103, c104, c105, c106, c107, c108, c109, c110, c111, c112, c113, c114, c115, c116, c117], []⟩ wr := by
  conv => arg 2; whnf
  refine wp_seq_k fun K hK => ?_
  have HKK : Hid (∀ (wr : World) (u12 u65 u66 u67 u68 u69 u70 u71 u72 u73 u74 u75 u76 u77 u78 : Value), Fill w4 wr g (na + nb + 3) (join na nb va vb) (1 + na) → K ⟨#[.slice ao na na, .slice bo nb nb, c2, c3, c4, c5, c6, c7, c8, c9, c10, .slice (some ⟨g, 0, none⟩) (na + nb + 3) (na + nb + 3), u12, c13, c14, c15, c16, c17, c18, c19, c20, c21, c22, c23, c24, c25, c26, c27, c28, c29, c30, c31, c32, c33, c34, c35, c36, c37, c38, c39, c40, c41, c42, c43, c44, c45, c46, c47, c48, c49, c50, c51, c52, c53, c54, c55, c56, c57, c58, c59, c60, c61, c62, c63, c64, u65, u66, u67, u68, u69, u70, u71, u72, u73, u74, u75, u76, u77, u78, c79, c80, c81, c82, c83, c84, c85, c86, c87, c88, c89, c90, c91, c92, c93, c94, c95, c96, c97, c98, c99, c100, c101, c102, c103, c104, c105, c106, c107, c108, c109, c110, c111, c112, c113, c114, c115, c116, c117], []⟩ wr) := by
    intro wr u12 u65 u66 u67 u68 u69 u70 u71 u72 u73 u74 u75 u76 u77 u78 hf
    refine hK _ _ ?_
    exact ad_c w0 w4 HL0 g HG ao bo na nb hn va vb HCa HCb sa sb HTa HTb ha0 ha1 hb0 hb1 wr hf c2 c3 c4 c5 c6 c7 c8 c9 c10 u12 c13 c14 c15 c16 c17 c18 c19 c20 c21 c22 c23 c24 c25 c26 c27 c28 c29 c30 c31 c32 c33 c34 c35 c36 c37 c38 c39 c40 c41 c42 c43 c44 c45 c46 c47 c48 c49 c50 c51 c52 c53 c54 c55 c56 c57 c58 c59 c60 c61 c62 c63 c64 u65 u66 u67 u68 u69 u70 u71 u72 u73 u74 u75 u76 u77 u78 c79 c80 c81 c82 c83 c84 c85 c86 c87 c88 c89 c90 c91 c92 c93 c94 c95 c96 c97 c98 c99 c100 c101 c102 c103 c104 c105 c106 c107 c108 c109 c110 c111 c112 c113 c114 c115 c116 c117
  clear hK HTa HTb HL0
  go_wp2
  go_loopg [12] na (fun gg s12 wr' => ∃ j : Nat, s12 = .int .i64 j ∧ j + gg = na ∧ Fill w4 wr' g (na + nb + 3) (join na nb va vb) (1 + j))
  case atStart => exact ⟨0, rfl, by omega, HF.out⟩
  case round =>
    obtain ⟨j, rfl, hjg, hf⟩ := hrel
    have HF2 : Hid (Fill w4 wr g (na + nb + 3) (join na nb va vb) (1 + j)) := hf
    clear hf HF
    cases gk with
    | zero =>
      obtain rfl : j = na := by omega
      go_wp2
      exact HKK.out _ _ _ _ _ _ _ _ _ _ _ _ _ _ _ _ HF2.out
    | succ gg =>
      have hj : j < na := by omega
      obtain ⟨ga, hao, hcj⟩ := (HCa.out.below HF2.out.bel).cell hj
      obtain ⟨c, hc⟩ : ∃ c, va j = c := ⟨_, rfl⟩
      rw [hc] at hcj
      obtain ⟨⟨y, hy⟩, hfz, hf2⟩ := HF2.out.facts HG.out (by omega) c (by rw [join_a na nb va vb j hj]; exact hc)
      have HF3 : Hid (Fill w4 (wr.setCell ⟨g, 1 + j, none⟩ (.int .u8 c)) g (na + nb + 3) (join na nb va vb) (1 + (j + 1))) := hf2
      clear hf2 hc
      subst hao
      go_wp2
      go_roundg gg
      case measure => omega
      case rel => exact ⟨j + 1, by go_num, by omega, HF3.out⟩

end Go.Proofs.Qxb6602476a
