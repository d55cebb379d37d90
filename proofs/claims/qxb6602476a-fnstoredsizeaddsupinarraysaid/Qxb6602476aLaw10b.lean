/-
  WALK: FnStoredSizeAddsUpInArray, whole.
-/
import Derived.Test.Qxb6602476aLaw10
namespace Go.Proofs.Qxb6602476a
open Go.RowKit Plain

set_option maxRecDepth 100000 in
set_option maxHeartbeats 1000000 in
theorem bytes27 (a b : Option Addr) (na nb ca cb : Nat) (ha : na ≤ 9223372036854775807) (hb : nb ≤ 9223372036854775807) (w : World) :
    Calls Try.prog 27 #[.slice a na ca, .slice b nb cb] w fun e w' => e = .returned (.bool (decide (na + nb ≤ 1048576))) ∧ w' = w := by
  by_cases h : na + nb ≤ 1048576
  · rw [decide_eq_true h]
    have h1 : ¬ (1048576 : Int) < na := by omega
    have h2 : ¬ (1048576 : Int) < nb := by omega
    have h3 : ¬ (1048576 : Int) < (na : Int) + nb := by omega
    go_enter Try.func27, Try.ntmps27
    go_wp2
    go_ret
    exact ⟨rfl, rfl⟩
  · rw [decide_eq_false h]
    by_cases h1 : (1048576 : Int) < na
    · go_enter Try.func27, Try.ntmps27
      go_wp2
      go_ret
      exact ⟨rfl, rfl⟩
    · by_cases h2 : (1048576 : Int) < nb
      · go_enter Try.func27, Try.ntmps27
        go_wp2
        go_ret
        exact ⟨rfl, rfl⟩
      · have h3 : (1048576 : Int) < (na : Int) + nb := by omega
        go_enter Try.func27, Try.ntmps27
        go_wp2
        go_ret
        exact ⟨rfl, rfl⟩

set_option maxRecDepth 1000000 in
set_option maxHeartbeats 4000000 in
theorem law10_any (a : Option Addr) (na ca : Nat) (hna : na ≤ 9223372036854775807) (va : Nat → Nat) (b : Option Addr) (nb cb : Nat) (hnb : nb ≤ 9223372036854775807) (vb : Nat → Nat) (w : World) (ha : Bts w a na va) (hanil : a = none → na = 0 ∧ ca = 0) (hb : Bts w b nb vb) (hbnil : b = none → nb = 0 ∧ cb = 0) :
    Calls Try.prog 10 #[.slice a na ca, .slice b nb cb] w fun e w' => e = .returned (.bool true) ∧ Below w.heap.size w w' := by
  have HBa : Hid (Bts w a na va) := ha
  have HNa : Hid (a = none → na = 0 ∧ ca = 0) := hanil
  have HBb : Hid (Bts w b nb vb) := hb
  have HNb : Hid (b = none → nb = 0 ∧ cb = 0) := hbnil
  have H27 : Hid (∀ w, Calls Try.prog 27 #[.slice a na ca, .slice b nb cb] w fun e w' => e = .returned (.bool (decide (na + nb ≤ 1048576))) ∧ w' = w) := bytes27 a b na nb ca cb hna hnb
  clear ha hanil hb hbnil
  by_cases hle : na + nb ≤ 1048576
  · rw [decide_eq_true hle] at H27
    have h1 : ¬ (1048576 : Int) < na := by omega
    have h2 : ¬ (1048576 : Int) < nb := by omega
    have h3 : ¬ (1048576 : Int) < (na : Int) + nb := by omega
    have h4 : IntKind.i64.wrap ((na : Int) + nb) = (na : Int) + nb := wrap_small _ (by omega) (by omega)
    go_enter Try.func10, Try.ntmps10
    go_wp2_with (go_at_call 27; refine (H27.out _).mono ?_; rintro e w' ⟨rfl, hw'⟩; subst hw'; try simp only [])
    refine (zzScanJSON_any a na ca (by omega) va _ HBa.out).mono ?_
    rintro e w1 ⟨⟨sza, oka, exa, rfl, hansa⟩, hbel1⟩
    have HAa : Hid (Answer va na sza oka exa) := hansa
    have HL1 : Hid (Below _ _ w1) := hbel1
    clear hansa hbel1
    simp only []
    go_wp2_with fail
    refine (zzScanJSON_any b nb cb (by omega) vb _ (HBb.out.below HL1.out)).mono ?_
    rintro e w2 ⟨⟨szb, okb, exb, rfl, hansb⟩, hbel2⟩
    have HAb : Hid (Answer vb nb szb okb exb) := hansb
    have HL2 : Hid (Below _ _ w2) := below_more HL1.out hbel2 HL1.out.size
    clear hansb hbel2
    simp only []
    cases oka with
    | false =>
      go_wp2
      go_ret
      exact ⟨rfl, HL2.out⟩
    | true =>
      cases okb with
      | false =>
        go_wp2
        go_ret
        exact ⟨rfl, HL2.out⟩
      | true =>
        obtain ⟨sa, hra, _⟩ := HAa.out rfl
        obtain ⟨sb, hrb, _⟩ := HAb.out rfl
        have HTa : Hid (Plain.Reach va na na sa) := hra
        have HTb : Hid (Plain.Reach vb nb nb sb) := hrb
        have hba := reach_bound hra
        have hbb := reach_bound hrb
        obtain ⟨ha0, ha1⟩ := hba
        obtain ⟨hb0, hb1⟩ := hbb
        clear hra hrb HAa HAb
        go_wp2_with fail
        refine (clone_cl a na ca (by omega) va _ (HBa.out.below HL2.out) HNa.out).mono ?_
        rintro e w3 ⟨⟨ao, rfl, hcla⟩, hbel3⟩
        have HL3 : Hid (Below _ _ w3) := below_more HL2.out hbel3 HL2.out.size
        have HCa3 : Hid (Cl w3 ao na va) := hcla
        clear hcla hbel3
        simp only []
        go_wp2_with fail
        refine (clone_cl b nb cb (by omega) vb _ (HBb.out.below HL3.out) HNb.out).mono ?_
        rintro e w4 ⟨⟨bo, rfl, hclb⟩, hbel4⟩
        have HL4 : Hid (Below _ _ w4) := below_more HL3.out hbel4 HL3.out.size
        have HCa : Hid (Cl w4 ao na va) := HCa3.out.below hbel4
        have HCb : Hid (Cl w4 bo nb vb) := hclb
        clear hclb hbel4 HCa3 HL1 HL2 HL3 HBa HBb HNa HNb H27
        simp only []
        obtain ⟨i0, hi0, hz0, hz1, hz2⟩ := info_parts info5
        go_wp2_with (at_make; refine wpList_make_full _ rfl _ _ 22 rfl w4.heap.size 5 i0 _ 1 Try.underlying22 hi0 hz0 hz1 _ _ _ _ (na + nb + 3) rfl rfl (by omega) (by omega) ?b2 ?b3 ?b4 ?_)
        case b2 => rw [hz2]; omega
        case b3 => unfold maxLen; omega
        case b4 => exact Nat.le_refl _
        intro w5 hown hgrow
        have HF0 : Hid (Fill w4 w5 w4.heap.size (na + nb + 3) (join na nb va vb) 0) := ⟨⟨_, hown, fun k hk => by omega⟩, (Below.refl _ _).grown hgrow (Nat.le_refl _) (fun k hk => by cases hk)⟩
        clear hown hgrow hi0 hz0 hz1 hz2
        obtain ⟨g, hg⟩ : ∃ g, w4.heap.size = g := ⟨_, rfl⟩
        have HG : Hid (g = w4.heap.size) := hg.symm
        rw [hg] at HF0
        first | rw [hg] | skip
        clear hg
        obtain ⟨⟨y, hy⟩, hfz, hf1⟩ := HF0.out.facts HG.out (by omega) 91 (join_0 na nb va vb)
        have HF1 : Hid (Fill w4 (w5.setCell ⟨g, 0, none⟩ (.int .u8 91)) g (na + nb + 3) (join na nb va vb) 1) := hf1
        clear hf1
        go_upto_region 12 with fail
        go_cut [11] (fun s11 w1 => s11 = .slice (some ⟨g, 0, none⟩) (na + nb + 3) (na + nb + 3) ∧ Fill w4 w1 g (na + nb + 3) (join na nb va vb) 1)
        case first =>
          go_wp2
          go_meet
          case rel => exact ⟨rfl, HF1.out⟩
        case rest =>
          obtain ⟨rfl, hf⟩ := hcut
          refine (by assumption : ∀ a w, Code.wp _ _ _ a w → _) _ _ ?_
          exact ad_a _ w4 HL4 g HG ao bo na nb hle va vb HCa HCb sa sb HTa HTb ha0 (by omega) hb0 (by omega) _ hf _ _ _ _ _ _ _ _ _ _ _ _ _ _ _ _ _ _ _ _ _ _ _ _ _ _ _ _ _ _ _ _ _ _ _ _ _ _ _ _ _ _ _ _ _ _ _ _ _ _ _ _ _ _ _ _ _ _ _ _ _ _ _ _ _ _ _ _ _ _ _ _ _ _ _ _ _ _ _ _ _ _ _ _ _ _ _ _ _ _ _ _ _ _ _ _ _ _ _ _ _ _ _ _ _ _ _ _ _ _ _ _ _ _ _
  · rw [decide_eq_false hle] at H27
    go_enter Try.func10, Try.ntmps10
    go_wp2_with (go_at_call 27; refine (H27.out _).mono ?_; rintro e w' ⟨rfl, hw'⟩; subst hw'; try simp only [])
    go_ret
    exact ⟨rfl, Below.refl _ _⟩

end Go.Proofs.Qxb6602476a
