/-
  WALK: zzNumber.
-/
import Derived.Test.Qxb6602476aNum6
namespace Go.Proofs.Qxb6602476a
open Go.RowKit Plain

set_option maxRecDepth 1000000 in
set_option maxHeartbeats 4000000 in
theorem zzNumber_any (a : Option Addr) (n cap : Nat) (hn : n ≤ 2097152) (v : Nat → Nat) (i : Nat) (hi : i < n) (w : World) (hb : Bts w a n v) :
    Calls Try.prog 18 #[.slice a n cap, .int .i64 i] w fun e w' => NumBack v n i e ∧ w' = w := by
  obtain ⟨b, off, mm, rfl, hc⟩ := hb.at' (by omega)
  have HC : Hid (∀ i, i < n → w.cell? ((⟨b, off, mm⟩ : Addr).add i) = some (.int .u8 (v i))) := hc
  have HM : Hid (∀ i, v i < 256) := hb.small
  clear hc hb
  have hci := HC.out i hi
  obtain ⟨x, hx⟩ : ∃ x, v i = x := ⟨_, rfl⟩
  rw [hx] at hci
  have HX : Hid (v i = x) := hx
  clear hx
  go_enter Try.func18, Try.ntmps18
  go_upto_if 33 with fail
  go_cut [1, 9] (fun s1 s9 w1 => ∃ (m : Nat) (neg : Bool), s1 = .int .i64 m ∧ s9 = .bool neg ∧ SignAt v i m neg ∧ m ≤ n ∧ w1 = w)
  case first =>
    by_cases h : x = 45
    · subst h
      go_wp2
      go_meet
      case rel => exact ⟨i + 1, true, by go_num, rfl, Or.inl ⟨rfl, HX.out, rfl⟩, by omega, rfl⟩
    · have e : ((x : Int) == 45) = false := by rw [beq_eq_false_iff_ne]; omega
      clear h
      go_wp2
      go_meet
      case rel => exact ⟨i, false, rfl, rfl, Or.inr ⟨rfl, by rw [HX.out]; rw [beq_eq_false_iff_ne] at e; omega, rfl⟩, by omega, rfl⟩
  case rest =>
    obtain ⟨m, neg, rfl, rfl, hsign, hmn, rfl⟩ := hcut
    have HS : Hid (SignAt v i m neg) := hsign
    clear hsign hci HX
    by_cases hm : m < n
    · have hcm := HC.out m hm
      obtain ⟨y, hy⟩ : ∃ y, v m = y := ⟨_, rfl⟩
      rw [hy] at hcm
      have HY : Hid (v m = y) := hy
      have hy8 : y < 256 := by rw [← hy]; exact HM.out m
      clear hy
      go_upto_if 44 with fail
      go_cut [1, 10, 11, 12] (fun s1 s10 s11 s12 w1 => ∃ (p lead : Nat) (seen : Bool), s1 = .int .i64 p ∧ s10 = .int .i64 (p - m : Nat) ∧ s11 = .int .i64 lead ∧ s12 = .bool seen ∧ IntAt v m p lead seen ∧ p ≤ n ∧ w1 = wc)
      case first =>
        by_cases h : y = 48
        · subst h
          go_wp2
          go_meet
          case rel => exact ⟨m + 1, 1, false, by go_num, by rw [Nat.add_sub_cancel_left]; rfl, rfl, rfl, IntAt.zero HY.out, by omega, rfl⟩
        · have e : ((y : Int) == 48) = false := by rw [beq_eq_false_iff_ne]; omega
          by_cases h2 : 49 ≤ y ∧ y ≤ 57
          · have e1 : (49 : Int) ≤ y := by omega
            have e2 : (y : Int) ≤ 57 := by omega
            have HZ : Hid (Nz (v m)) := by rw [HY.out]; exact h2
            clear h h2
            go_upto_region 15 with fail
            go_cut [12] (fun s12 w1 => s12 = .bool true ∧ w1 = wc)
            case first =>
              go_wp2
              go_meet
              case rel => exact ⟨rfl, rfl⟩
            case rest =>
              obtain ⟨rfl, rfl⟩ := hcut
              go_wp2
              go_loopg [1, 10] (n - m) (fun g s1 s10 wr => ∃ j : Nat, s1 = .int .i64 j ∧ s10 = .int .i64 (j - m : Nat) ∧ j + g = n ∧ m ≤ j ∧ (∀ k, m ≤ k → k < j → Dg (v k)) ∧ wr = wc)
              case atStart => exact ⟨m, rfl, by rw [Nat.sub_self]; rfl, by omega, by omega, fun k h1 h2 => by omega, rfl⟩
              case round =>
                obtain ⟨j, rfl, rfl, hjg, hmj, hdj, rfl⟩ := hrel
                have HD : Hid (∀ k, m ≤ k → k < j → Dg (v k)) := hdj
                clear hdj hcm
                by_cases hj : j < n
                · have hcj := HC.out j hj
                  obtain ⟨x, hx⟩ : ∃ x, v j = x := ⟨_, rfl⟩
                  rw [hx] at hcj
                  by_cases hd : Dg x
                  · have HD2 : Hid (∀ k, m ≤ k → k < j + 1 → Dg (v k)) := num_step HD.out (by rw [hx]; exact hd)
                    have Hd : Hid (Dg x) := hd
                    clear hd hx
                    go_wp2_with (go_at_call 12; refine (zzIsDigit_yes x Hd.out _).mono ?_; rintro e w' ⟨rfl, hw'⟩; subst hw')
                    go_roundg (n - (j + 1))
                    case measure => omega
                    case rel => exact ⟨j + 1, by go_num, by go_num, by omega, by omega, HD2.out, rfl⟩
                  · have Hd : Hid (¬ Dg x) := hd
                    have hlt : m < j := by
                      rcases Nat.lt_or_ge m j with h3 | h3
                      · exact h3
                      · obtain rfl : j = m := by omega
                        exact absurd (by rw [← hx]; have := HZ.out; unfold Nz at this; unfold Dg; omega) hd
                    clear hd hx
                    go_wp2_with (go_at_call 12; refine (zzIsDigit_no x Hd.out _).mono ?_; rintro e w' ⟨rfl, hw'⟩; subst hw')
                    go_meet
                    case rel => exact ⟨j, 0, true, rfl, rfl, rfl, rfl, IntAt.run hlt HZ.out HD.out, by omega, rfl⟩
                · have hlt : m < j := by omega
                  go_wp2
                  go_meet
                  case rel => exact ⟨j, 0, true, rfl, rfl, rfl, rfl, IntAt.run hlt HZ.out HD.out, by omega, rfl⟩
          · by_cases h3 : y < 49
            · have e1 : ¬ (49 : Int) ≤ y := by omega
              clear h h2 h3
              go_wp2
              (try simp only [Exit.inBlock, Exit.then]); refine bodyPost_ret (results_tmp4 rfl _ _ _) rfl ?_
              exact ⟨numBack_no v n i m, rfl⟩
            · have e1 : (49 : Int) ≤ y := by omega
              have e2 : ¬ (y : Int) ≤ 57 := by omega
              clear h h2 h3
              go_wp2
              (try simp only [Exit.inBlock, Exit.then]); refine bodyPost_ret (results_tmp4 rfl _ _ _) rfl ?_
              exact ⟨numBack_no v n i m, rfl⟩
      case rest =>
        obtain ⟨p, lead1, seen1, rfl, rfl, rfl, rfl, hint, hpn, hwc⟩ := hcut
        subst hwc
        refine (by assumption : ∀ a w, Code.wp _ _ _ a w → _) _ _ ?_
        exact num_frac b off mm n cap hn v i m p _ HC lead1 neg seen1 HS hint hint.1 hpn _ _ _ _ _ _ _ _ _ _ _ _ _ _ _ _ _ _ _ _ _ _ _ _ _ _ _ _ _ _ _ _ _ _ _ _ _ _ _ _ _ _ _ _ _ _ _ _ _ _ _ _ _ _ _ _ _ _ _ _ _ _ _ _ _ _ _ _ _ _ _ _ _ _ _ _ _ _ _ _ _ _ _ _ _ _ _ _ _ _ _ _ _ _ _ _ _ _ _ _ _ _ _ _ _ _ _ _ _ _ _ _ _ _ _ _ _ _ _ _ _ _ _ _ _ _ _ _ _ _ _ _ _ _ _ _ _ _ _ _ _ _ _ _ _ _ _ _ _ _ _ _ _ _ _ _ _ _ _ _ _ _ _ _ _ _ _ _ _ _ _ _ _ _ _ _ _ _ _ _ _ _ _ _ _ _ _ _ _ _ _ _ _ _ _ _ _ _ _ _ _ _ _ _ _ _ _ _ _ _ _ _
    · go_wp2
      (try simp only [Exit.inBlock, Exit.then]); refine bodyPost_ret (results_tmp4 rfl _ _ _) rfl ?_
      exact ⟨numBack_no v n i m, rfl⟩
end Go.Proofs.Qxb6602476a
