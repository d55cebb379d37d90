/-
  WALKS: numberSize; the number's way of storedSize.
-/
import Derived.Test.Qxb6602476aSt3
namespace Go.Proofs.Qxb6602476a
open Go.RowKit Plain

set_option linter.unusedVariables false in
set_option maxRecDepth 1000000 in
set_option maxHeartbeats 4000000 in
theorem ns_any (g N i l e cp : Nat) (hl : i + l = e) (heN : e ≤ N) (hN : N ≤ 2097160) (hcp : l ≤ cp) (v : Nat → Nat) (r : Int) (h : NumSz v i e r) (w : World) (hr : Row w g N v) :
    Calls Try.prog 29 #[.slice (some ⟨g, i, none⟩) l cp] w fun en w' => en = .returned (.int .i64 r) ∧ ∃ k, w' = w.drewN k := by
  obtain ⟨neg, m, p, q, X, has, first, hg, hfst, rfl⟩ := h
  have HX : Hid (Expo v q e X) := hg.expo
  have HD : Hid (∀ k, m ≤ k → k < p → Dg (v k)) := hg.digits
  have HF : Hid (FracAt v p q) := hg.frac
  have HS : Hid (Fst v m p q has first) := hfst
  have HR : Hid (Row w g N v) := hr
  have hmp := hg.int
  have hpq : p ≤ q := by have := hg.frac; omega
  have hqe : q ≤ e := hg.expo.abs.2.2
  have hsg := hg.sign
  have him : i ≤ m := by omega
  have hci := hr.cell i (by omega)
  obtain ⟨L, hL⟩ : ∃ L, m + L = e := ⟨e - m, by omega⟩
  clear hg hfst hr
  go_enter Try.func29, Try.ntmps29
  rcases hsg with ⟨rfl, h1, rfl⟩ | ⟨rfl, h1, rfl⟩
  · rw [h1] at hci
    obtain rfl : l = L + 1 := by omega
    clear h1
    go_upto_region 4 with fail
    go_cut [0, 3, 4, 5] from 200 (fun s0 s3 s4 s5 w1 => ∃ cp2, s0 = .slice (some ⟨g, i + 1, none⟩) L cp2 ∧ s3 = .bool true ∧ s4 = .slice (some ⟨g, i + 1, none⟩) L cp2 ∧ s5 = .int .i64 0 ∧ L ≤ cp2 ∧ w1 = w)
    case first =>
      go_wp2
      go_meet
      case rel => exact ⟨_, rfl, rfl, rfl, rfl, by omega, rfl⟩
    case rest =>
      obtain ⟨cp2, rfl, rfl, rfl, rfl, hcp2, hwc⟩ := hcut
      subst hwc
      refine (by assumption : ∀ a w, Code.wp _ _ _ a w → _) _ _ ?_
      exact ns_expo g N (i + 1) p q e L cp2 (by omega) hL heN hN hcp2 v X true has first HX HD HF hpq HS _ HR _ _ _ _ _ _ _ _ _ _ _ _ _ _ _ _ _ _ _ _ _ _ _ _ _ _ _ _ _ _ _ _ _ _ _ _ _ _ _ _ _ _ _ _ _ _ _ _ _ _ _ _ _ _ _ _ _ _ _ _ _ _ _ _ _ _ _ _ _ _ _ _ _ _ _ _ _ _ _ _ _ _ _ _ _ _ _ _ _ _ _ _ _ _ _ _ _ _ _ _ _ _ _ _ _
  · obtain ⟨x, hx⟩ : ∃ x, v m = x := ⟨_, rfl⟩
    rw [hx] at hci h1
    have e1 : ((x : Int) == 45) = false := by rw [beq_eq_false_iff_ne]; omega
    obtain rfl : l = L := by omega
    clear h1 hx
    go_upto_region 4 with fail
    go_cut [0, 3, 4, 5] from 200 (fun s0 s3 s4 s5 w1 => ∃ cp2, s0 = .slice (some ⟨g, m, none⟩) l cp2 ∧ s3 = .bool false ∧ s4 = .slice (some ⟨g, m, none⟩) l cp2 ∧ s5 = .int .i64 0 ∧ l ≤ cp2 ∧ w1 = w)
    case first =>
      go_wp2
      go_meet
      case rel => exact ⟨_, rfl, rfl, rfl, rfl, by omega, rfl⟩
    case rest =>
      obtain ⟨cp2, rfl, rfl, rfl, rfl, hcp2, hwc⟩ := hcut
      subst hwc
      refine (by assumption : ∀ a w, Code.wp _ _ _ a w → _) _ _ ?_
      exact ns_expo g N m p q e l cp2 (by omega) hL heN hN hcp2 v X false has first HX HD HF hpq HS _ HR _ _ _ _ _ _ _ _ _ _ _ _ _ _ _ _ _ _ _ _ _ _ _ _ _ _ _ _ _ _ _ _ _ _ _ _ _ _ _ _ _ _ _ _ _ _ _ _ _ _ _ _ _ _ _ _ _ _ _ _ _ _ _ _ _ _ _ _ _ _ _ _ _ _ _ _ _ _ _ _ _ _ _ _ _ _ _ _ _ _ _ _ _ _ _ _ _ _ _ _ _ _ _ _ _

noncomputable def st28 : Code := ((Try.f33.body.bind (thenAt 28)).getD .skip)

set_option linter.unusedVariables false in
set_option maxRecDepth 1000000 in
set_option maxHeartbeats 4000000 in
theorem st_num (g N i e cp j0 : Nat) (hN : N ≤ 2097160) (hcp : N ≤ cp) (v : Nat → Nat) (hi : i < N) (hie : i < e) (heN : e ≤ N) (hj0 : j0 = i + 1) (s r : Int) (hs : 0 ≤ s) (hs2 : s ≤ 18014398509481984) (hr0 : 0 ≤ r) (hr2 : r ≤ 18014398509481984)
    (HC : Hid (∀ k, i < k → k < e → NumCh (v k))) (HE : Hid (e < N → ¬ NumCh (v e))) (HZ : Hid (NumSz v i e r)) (w0 w : World) (HW : Hid (∃ k, w = w0.drewN k)) (HR : Hid (Row w g N v)) (Q : Exit → Act → World → Prop) (c1 c2 c5 c7 c8 c9 c10 c11 c12 c13 c14 c15 c16 c17 c18 c19 c20 c21 c22 c23 c24 c25 c26 c27 c28 c29 c30 c31 c32 c33 c34 c35 c36 c37 c38 c39 c40 c41 c42 c43 c44 c45 c46 c47 c48 c49 c50 c51 c52 c53 c54 c55 c56 c57 c58 c59 c60 c61 c62 c63 c64 c65 c66 c67 c68 c69 c70 c71 c72 c73 c74 c75 c76 c77 c78 c79 c80 c81 : Value)
    (HN : Hid (∀ (s3 : Value) (w1 : World) (u29 u30 u31 u32 u33 u34 u35 u36 u37 u38 u39 u40 u41 u42 u43 u44 u45 u46 u47 u48 u49 u50 u51 u52 u53 u54 u55 u56 u57 u58 u59 u60 u61 u62 : Value), s3 = .int .i64 (s + r) → (∃ k, w1 = w0.drewN k) → Q .normal ⟨#[.slice (some ⟨g, 0, none⟩) N cp, c1, c2, s3, .int .i64 i, c5, .int .i64 e, c7, c8, c9, c10, c11, c12, c13, c14, c15, c16, c17, c18, c19, c20, c21, c22, c23, c24, c25, c26, c27, c28, u29, u30, u31, u32, u33, u34, u35, u36, u37, u38, u39, u40, u41, u42, u43, u44, u45, u46, u47, u48, u49, u50, u51, u52, u53, u54, u55, u56, u57, u58, u59, u60, u61, u62, c63, c64, c65, c66, c67, c68, c69, c70, c71, c72, c73, c74, c75, c76, c77, c78, c79, c80, c81], []⟩ w1)) :
    Code.wp Try.prog st28 Q ⟨#[.slice (some ⟨g, 0, none⟩) N cp, c1, c2, .int .i64 s, .int .i64 i, c5, .int .i64 j0, c7, c8, c9, c10, c11, c12, c13, c14, c15, c16, c17, c18, c19, c20, c21, c22, c23, c24, c25, c26, c27, c28, c29, c30, c31, c32, c33, c34, c35, c36, c37, c38, c39, c40, c41, c42, c43, c44, c45, c46, c47, c48, c49, c50, c51, c52, c53, c54, c55, c56, c57, c58, c59, c60, c61, c62, c63, c64, c65, c66, c67, c68, c69, c70, c71, c72, c73, c74, c75, c76, c77, c78, c79, c80, c81], []⟩ w := by
  conv => arg 2; whnf
  subst hj0
  go_wp2
  go_loopg [6] (e - (i + 1)) (fun gg s6 wr => ∃ j : Nat, s6 = .int .i64 j ∧ i < j ∧ j + gg = e ∧ wr = w)
  case atStart => exact ⟨i + 1, by go_num, by omega, by omega, rfl⟩
  case round =>
    obtain ⟨j, rfl, hij, hjg, hwr⟩ := hrel
    subst hwr
    cases gk with
    | succ gg =>
      have hj : j < N := by omega
      have hcj := HR.out.cell j hj
      have hch := HC.out j hij (by omega)
      have hc8 := HR.out.small j
      obtain ⟨c, hc⟩ : ∃ c, v j = c := ⟨_, rfl⟩
      rw [hc] at hcj hch hc8
      clear hc
      by_cases hd : Dg c
      · have Hd : Hid (Dg c) := hd
        clear hd hch
        go_wp2_with (go_at_call 36; refine (isDigit_yes c Hd.out _).mono ?_; rintro e w' ⟨rfl, hw'⟩; subst hw'; try simp only [])
        go_roundg gg
        case measure => omega
        case rel => exact ⟨j + 1, by go_num, by omega, by omega, rfl⟩
      · have Hd : Hid (¬ Dg c) := hd
        have hf := first_yes c (by unfold NumCh at hch; rcases hch with h | h; exact absurd h hd; exact h)
        obtain ⟨fi, hfi⟩ : ∃ fi, firstIdx ⟨#[43, 45, 46, 101, 69]⟩ (c : Int).toNat.toUInt8 = fi := ⟨_, rfl⟩
        rw [hfi] at hf
        have Hfi : Hid (firstIdx ⟨#[43, 45, 46, 101, 69]⟩ (c : Int).toNat.toUInt8 = fi) := hfi
        clear hd hch hfi
        go_wp2_with (first | (go_at_call 36; refine (isDigit_no c Hd.out _).mono ?_; rintro e w' ⟨rfl, hw'⟩; subst hw'; try simp only []) | (go_at_call 37; refine (ib37 _ _ _).mono ?_; rintro e w' ⟨rfl, hw'⟩; subst hw'; rw [Hfi.out]; try simp only []))
        go_roundg gg
        case measure => omega
        case rel => exact ⟨j + 1, by go_num, by omega, by omega, rfl⟩
    | zero =>
      obtain rfl : j = e := by omega
      have HP : Hid (∀ w', Row w' g N v → Calls Try.prog 29 #[.slice (some ⟨g, i, none⟩) (j - i) (cp - i)] w' fun en w1 => en = .returned (.int .i64 r) ∧ ∃ k, w1 = w'.drewN k) := fun w' hr => ns_any g N i (j - i) j (cp - i) (by omega) heN hN (by omega) v r HZ.out w' hr
      have fin : ∀ w1, (∃ k, w1 = wr.drewN k) → ∃ k, w1 = w0.drewN k := fun w1 h => by
        obtain ⟨k1, h1⟩ := HW.out
        obtain ⟨k2, h2⟩ := h
        exact ⟨k1 + k2, by rw [h2, h1, World.drewN_drewN]⟩
      have HFin : Hid (∀ w1, (∃ k, w1 = wr.drewN k) → ∃ k, w1 = w0.drewN k) := fin
      clear fin
      by_cases hjN : j < N
      · have hcj := HR.out.cell j hjN
        have hch := HE.out hjN
        have hc8 := HR.out.small j
        obtain ⟨c, hc⟩ : ∃ c, v j = c := ⟨_, rfl⟩
        rw [hc] at hcj hch hc8
        have Hd : Hid (¬ Dg c) := fun h => hch (Or.inl h)
        have hf := first_no c hc8 (fun h => hch (Or.inr h))
        have Hfi : Hid (firstIdx ⟨#[43, 45, 46, 101, 69]⟩ (c : Int).toNat.toUInt8 = -1) := hf
        clear hch hf hc
        go_wp2_with (first | (go_at_call 36; refine (isDigit_no c Hd.out _).mono ?_; rintro e w' ⟨rfl, hw'⟩; subst hw'; try simp only []) | (go_at_call 37; refine (ib37 _ _ _).mono ?_; rintro e w' ⟨rfl, hw'⟩; subst hw'; rw [Hfi.out]; try simp only []))
        refine (HP.out _ HR.out).mono ?_
        rintro en w1 ⟨rfl, hk⟩
        have hk2 := HFin.out _ hk
        have HK : Hid (∃ k, w1 = w0.drewN k) := hk2
        clear hk hk2
        simp only []
        go_wp2
        exact HN.out _ _ _ _ _ _ _ _ _ _ _ _ _ _ _ _ _ _ _ _ _ _ _ _ _ _ _ _ _ _ _ _ _ _ _ _ rfl HK.out
      · go_wp2_with fail
        refine (HP.out _ HR.out).mono ?_
        rintro en w1 ⟨rfl, hk⟩
        have hk2 := HFin.out _ hk
        have HK : Hid (∃ k, w1 = w0.drewN k) := hk2
        clear hk hk2
        simp only []
        go_wp2
        exact HN.out _ _ _ _ _ _ _ _ _ _ _ _ _ _ _ _ _ _ _ _ _ _ _ _ _ _ _ _ _ _ _ _ _ _ _ _ rfl HK.out

end Go.Proofs.Qxb6602476a
