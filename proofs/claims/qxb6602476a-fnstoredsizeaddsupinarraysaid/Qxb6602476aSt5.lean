/-
  WALK: storedSize.
-/
import Derived.Test.Qxb6602476aSt4
namespace Go.Proofs.Qxb6602476a
open Go.RowKit Plain

theorem numSz_bound {v : Nat → Nat} {i e : Nat} {r : Int} (h : NumSz v i e r) : 0 ≤ r ∧ r ≤ (e - i : Nat) * 4294967296 := by
  obtain ⟨neg, m, p, q, X, has, first, hg, hf, rfl⟩ := h
  have hx := hg.expo.abs
  have h1 := hg.sign
  have h2 := hg.int
  have h3 := hg.frac
  have h4 : p ≤ q := by omega
  have h5 : i ≤ m := by omega
  have h6 : fracOf p q ≤ e - i := by unfold fracOf; omega
  have h7 : p - m ≤ e - i := by omega
  have h8 : 1 ≤ e - i := by omega
  generalize fracOf p q = F at h6 ⊢
  generalize p - m = I at h7 ⊢
  generalize e - i = D at h6 h7 h8 ⊢
  obtain ⟨x1, x2, _⟩ := hx
  clear hg hf h1 h2 h3 h4 h5
  unfold NS
  constructor
  · split <;> split <;> split <;> omega
  · split <;> split <;> split <;> omega
theorem step_cost {v : Nat → Nat} {n i e : Nat} {r : Int} (h : Step v n i e r) : 0 ≤ r ∧ r ≤ (e - i : Nat) * 4294967296 := by
  cases h with
  | str h1 h2 h3 => omega
  | num h1 h2 h3 h4 h5 h6 h7 => exact numSz_bound h7
  | space h1 h2 => omega
  | other h1 h2 => omega
theorem tok_end {v : Nat → Nat} {n : Nat} {r : Int} (h : Tok v n n r) : r = 0 := by
  cases h with
  | done => rfl
  | step h1 h2 => have := h1.bound; omega
theorem add0 (g i : Nat) : (⟨g, 0, none⟩ : Addr).add i = ⟨g, i, none⟩ := by
  unfold Addr.add
  split
  · next h => subst h; rfl
  · simp
theorem Row.bts {w : World} {g N : Nat} {v : Nat → Nat} (h : Row w g N v) (hg : g < w.heap.size) : Bts w (some ⟨g, 0, none⟩) N v :=
  ⟨h.small, Or.inr ⟨g, 0, none, rfl, hg, fun i hi => by rw [add0]; exact h.cell i hi⟩⟩

set_option linter.unusedVariables false in
set_option maxRecDepth 1000000 in
set_option maxHeartbeats 4000000 in
theorem ss_any (g N cp : Nat) (hN : N ≤ 2097152) (hcp : N ≤ cp) (v : Nat → Nat) (S : Int) (ht : Tok v N 0 S) (w : World) (hg : g < w.heap.size) (hr : Row w g N v) :
    Calls Try.prog 33 #[.slice (some ⟨g, 0, none⟩) N cp] w fun en w' => en = .returned (.int .i64 S) ∧ ∃ k, w' = w.drewN k := by
  have HT0 : Hid (Tok v N 0 S) := ht
  have HR0 : Hid (Row w g N v) := hr
  have HG0 : Hid (g < w.heap.size) := hg
  clear ht hr hg
  go_enter Try.func33, Try.ntmps33
  go_wp2
  go_loopg [3, 4] N (fun gg s3 s4 wr => ∃ (i : Nat) (s r : Int), s4 = .int .i64 i ∧ s3 = .int .i64 s ∧ s + r = S ∧ Tok v N i r ∧ 0 ≤ s ∧ s ≤ i * 4294967296 ∧ i + gg = N ∧ ∃ k, wr = w.drewN k)
  case atStart => exact ⟨0, 0, S, rfl, rfl, by omega, HT0.out, by omega, by omega, by omega, 0, rfl⟩
  case round =>
    obtain ⟨i, s, r, rfl, rfl, hsr, htok, hs0, hs1, hig, hk⟩ := hrel
    have HW : Hid (∃ k, wr = w.drewN k) := hk
    have HR : Hid (Row wr g N v) := by obtain ⟨k, rfl⟩ := hk; exact HR0.out.drewN k
    have HG : Hid (g < wr.heap.size) := by obtain ⟨k, rfl⟩ := hk; exact HG0.out
    clear hk HR0 HT0 HG0
    cases htok with
    | done =>
      obtain rfl : s = S := by omega
      go_wp2
      go_ret
      exact ⟨rfl, HW.out⟩
    | @step _ e r1 r0 hst htok =>
      have hcost := step_cost hst
      have hbd := hst.bound
      have HT : Hid (Tok v N e r1) := htok
      clear htok
      obtain ⟨hr0, hr1⟩ := hcost
      obtain ⟨hie, heN⟩ := hbd
      cases hst with
      | str hi hv hse =>
        have hci := HR.out.cell i hi
        rw [hv] at hci
        have HE : Hid (StrEnd v N (i + 1) e) := hse
        clear hse hv
        go_wp2_with (go_at_call 35; refine (stringEnd_any (some ⟨g, 0, none⟩) N cp hN v i e hi HE.out _ (HR.out.bts HG.out)).mono ?_; rintro en w' ⟨rfl, hw'⟩; subst hw'; try simp only [])
        go_roundg (N - e)
        case measure => omega
        case rel => exact ⟨e, s + ((e : Int) - i), r1, rfl, by go_num, by omega, HT.out, by omega, by omega, by omega, HW.out⟩
      | num hi hc _ _ hch hnx hz =>
        have hci := HR.out.cell i hi
        have HC : Hid (∀ k, i < k → k < e → NumCh (v k)) := hch
        have HE : Hid (e < N → ¬ NumCh (v e)) := hnx
        have HZ : Hid (NumSz v i e r0) := hz
        clear hch hnx hz HG
        obtain ⟨c, hcv⟩ : ∃ c, v i = c := ⟨_, rfl⟩
        rw [hcv] at hci hc
        clear hcv
        by_cases h45 : c = 45
        · subst h45
          clear hc
          go_upto_if 28 with fail
          refine wp_cond_true rfl ?_
          refine st_num g N i e cp (i + 1) (by omega) hcp v hi hie heN rfl s r0 hs0 (by omega) hr0 (by omega) HC HE HZ w _ HW HR _ _ _ _ _ _ _ _ _ _ _ _ _ _ _ _ _ _ _ _ _ _ _ _ _ _ _ _ _ _ _ _ _ _ _ _ _ _ _ _ _ _ _ _ _ _ _ _ _ _ _ _ _ _ _ _ _ _ _ _ _ _ _ _ _ _ _ _ _ _ _ _ _ _ _ _ _ _ _ ?_
          intro s3 w1 u29 u30 u31 u32 u33 u34 u35 u36 u37 u38 u39 u40 u41 u42 u43 u44 u45 u46 u47 u48 u49 u50 u51 u52 u53 u54 u55 u56 u57 u58 u59 u60 u61 u62 h3 hk
          subst h3
          have HW1 : Hid (∃ k, w1 = w.drewN k) := hk
          clear hk HR HW
          go_wp2
          go_roundg (N - e)
          case measure => omega
          case rel => exact ⟨e, s + r0, r1, rfl, rfl, by omega, HT.out, by omega, by omega, by omega, HW1.out⟩
        · have Hd : Hid (Dg c) := by rcases hc with h | h; exact absurd h h45; exact h
          have e34 : ((c : Int) == 34) = false := by have := Hd.out; unfold Dg at this; rw [beq_eq_false_iff_ne]; omega
          have e45 : ((c : Int) == 45) = false := by rw [beq_eq_false_iff_ne]; omega
          clear hc h45
          go_upto_if 28 with (go_at_call 36; refine (isDigit_yes c Hd.out _).mono ?_; rintro en w' ⟨rfl, hw'⟩; subst hw'; try simp only [])
          refine wp_cond_true rfl ?_
          refine st_num g N i e cp (i + 1) (by omega) hcp v hi hie heN rfl s r0 hs0 (by omega) hr0 (by omega) HC HE HZ w _ HW HR _ _ _ _ _ _ _ _ _ _ _ _ _ _ _ _ _ _ _ _ _ _ _ _ _ _ _ _ _ _ _ _ _ _ _ _ _ _ _ _ _ _ _ _ _ _ _ _ _ _ _ _ _ _ _ _ _ _ _ _ _ _ _ _ _ _ _ _ _ _ _ _ _ _ _ _ _ _ _ ?_
          intro s3 w1 u29 u30 u31 u32 u33 u34 u35 u36 u37 u38 u39 u40 u41 u42 u43 u44 u45 u46 u47 u48 u49 u50 u51 u52 u53 u54 u55 u56 u57 u58 u59 u60 u61 u62 h3 hk
          subst h3
          have HW1 : Hid (∃ k, w1 = w.drewN k) := hk
          clear hk HR HW
          go_wp2
          go_roundg (N - e)
          case measure => omega
          case rel => exact ⟨e, s + r0, r1, rfl, rfl, by omega, HT.out, by omega, by omega, by omega, HW1.out⟩
      | space hi hsp =>
        have hci := HR.out.cell i hi
        clear HG
        rcases hsp with h | h | h | h
        · rw [h] at hci
          clear h
          go_wp2_with (go_at_call 36; refine (isDigit_no 32 (by unfold Dg; omega) _).mono ?_; rintro en w' ⟨rfl, hw'⟩; subst hw'; try simp only [])
          go_roundg (N - (i + 1))
          case measure => omega
          case rel => exact ⟨i + 1, s, r1, by go_num, rfl, by omega, HT.out, by omega, by omega, by omega, HW.out⟩
        · rw [h] at hci
          clear h
          go_wp2_with (go_at_call 36; refine (isDigit_no 9 (by unfold Dg; omega) _).mono ?_; rintro en w' ⟨rfl, hw'⟩; subst hw'; try simp only [])
          go_roundg (N - (i + 1))
          case measure => omega
          case rel => exact ⟨i + 1, s, r1, by go_num, rfl, by omega, HT.out, by omega, by omega, by omega, HW.out⟩
        · rw [h] at hci
          clear h
          go_wp2_with (go_at_call 36; refine (isDigit_no 10 (by unfold Dg; omega) _).mono ?_; rintro en w' ⟨rfl, hw'⟩; subst hw'; try simp only [])
          go_roundg (N - (i + 1))
          case measure => omega
          case rel => exact ⟨i + 1, s, r1, by go_num, rfl, by omega, HT.out, by omega, by omega, by omega, HW.out⟩
        · rw [h] at hci
          clear h
          go_wp2_with (go_at_call 36; refine (isDigit_no 13 (by unfold Dg; omega) _).mono ?_; rintro en w' ⟨rfl, hw'⟩; subst hw'; try simp only [])
          go_roundg (N - (i + 1))
          case measure => omega
          case rel => exact ⟨i + 1, s, r1, by go_num, rfl, by omega, HT.out, by omega, by omega, by omega, HW.out⟩
      | other hi h34 h45 hnd hsp =>
        have hci := HR.out.cell i hi
        clear HG
        obtain ⟨c, hcv⟩ : ∃ c, v i = c := ⟨_, rfl⟩
        rw [hcv] at hci h34 h45 hnd hsp
        unfold Sp at hsp
        have Hd : Hid (¬ Dg c) := hnd
        have e1 : ((c : Int) == 34) = false := by rw [beq_eq_false_iff_ne]; omega
        have e2 : ((c : Int) == 45) = false := by rw [beq_eq_false_iff_ne]; omega
        have e3 : ((c : Int) == 32) = false := by rw [beq_eq_false_iff_ne]; omega
        have e4 : ((c : Int) == 9) = false := by rw [beq_eq_false_iff_ne]; omega
        have e5 : ((c : Int) == 10) = false := by rw [beq_eq_false_iff_ne]; omega
        have e6 : ((c : Int) == 13) = false := by rw [beq_eq_false_iff_ne]; omega
        have n3 : ((c : Int) != 32) = true := by rw [bne_iff_ne]; omega
        have n4 : ((c : Int) != 9) = true := by rw [bne_iff_ne]; omega
        have n5 : ((c : Int) != 10) = true := by rw [bne_iff_ne]; omega
        have n6 : ((c : Int) != 13) = true := by rw [bne_iff_ne]; omega
        clear h34 h45 hnd hsp hcv
        go_wp2_with (go_at_call 36; refine (isDigit_no c Hd.out _).mono ?_; rintro en w' ⟨rfl, hw'⟩; subst hw'; try simp only [])
        go_roundg (N - (i + 1))
        case measure => omega
        case rel => exact ⟨i + 1, s + 1, r1, by go_num, rfl, by omega, HT.out, by omega, by omega, by omega, HW.out⟩

set_option maxRecDepth 1000000 in
set_option maxHeartbeats 4000000 in
theorem ss_nil (w : World) : Calls Try.prog 33 #[.slice none 0 0] w fun en w' => en = .returned (.int .i64 0) ∧ ∃ k, w' = w.drewN k := by
  go_enter Try.func33, Try.ntmps33
  go_wp2
  refine wp_loop_rounds 1 ?_
  rw [rounds_succ]
  go_wp2
  go_ret
  exact ⟨rfl, 0, rfl⟩

end Go.Proofs.Qxb6602476a
