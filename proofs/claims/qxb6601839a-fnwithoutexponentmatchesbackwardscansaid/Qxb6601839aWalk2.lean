/-
  WALKS: the bounds on lengths, cutSign, exponentTail.
-/
import Derived.Test.Qxb6601839aWalk1
namespace Go.Proofs.Qxb6601839a
open Go.RowKit Plain

set_option maxHeartbeats 400000 in
theorem bytes14_yes (s : ByteArray) (hs : s.size ≤ 1048576) (w : World) :
    Calls Try.prog 14 #[.string s] w fun e w' => e = .returned (.bool true) ∧ w' = w := by
  go_enter Try.func14, Try.ntmps14
  go_wp2
  go_ret
  exact ⟨rfl, rfl⟩
set_option maxHeartbeats 400000 in
theorem bytes14_no (s : ByteArray) (hm : s.size ≤ maxLen) (hs : 1048576 < s.size) (w : World) :
    Calls Try.prog 14 #[.string s] w fun e w' => e = .returned (.bool false) ∧ w' = w := by
  unfold maxLen at hm
  go_enter Try.func14, Try.ntmps14
  go_wp2
  go_ret
  exact ⟨rfl, rfl⟩
set_option maxHeartbeats 400000 in
theorem bytes19_yes (s : ByteArray) (hs : s.size ≤ 1048576) (w : World) :
    Calls Try.prog 19 #[.string s] w fun e w' => e = .returned (.bool true) ∧ w' = w := by
  go_enter Try.func19, Try.ntmps19
  go_wp2
  go_ret
  exact ⟨rfl, rfl⟩
set_option maxHeartbeats 400000 in
theorem bytes19_no (s : ByteArray) (hm : s.size ≤ maxLen) (hs : 1048576 < s.size) (w : World) :
    Calls Try.prog 19 #[.string s] w fun e w' => e = .returned (.bool false) ∧ w' = w := by
  unfold maxLen at hm
  go_enter Try.func19, Try.ntmps19
  go_wp2
  go_ret
  exact ⟨rfl, rfl⟩

/-- Behind a mark at i: another mark ahead of it (b'), or none. -/
def CutIf (s h : ByteArray) (b' : Bool) : Prop := match b' with | true => Cut s s false | false => Cut s h true
theorem CutIf.t {s h : ByteArray} (H : CutIf s h true) : Cut s s false := H
theorem CutIf.f {s h : ByteArray} (H : CutIf s h false) : Cut s h true := H

theorem ret_cut {s r r' : ByteArray} {b b' : Bool} (h : Cut s r b) (h' : Cut s r' b') : Ending.returned (.tuple #[.string r, .bool b]) = .returned (.tuple #[.string r', .bool b']) := by
  obtain ⟨rfl, rfl⟩ := h.uniq h'; rfl

theorem bt_u8 (s : ByteArray) (k : Nat) : bt s k ≤ 255 := by
  unfold bt; have := (s.data.toList[k]?.getD 0).toNat_lt; omega

set_option maxHeartbeats 2000000 in
theorem tail_any (s r : ByteArray) (b : Bool) (hc : Cut s r b) (hs : s.size ≤ 1048576) (w : World) :
    Calls Try.prog 16 #[.string s] w fun e w' => e = .returned (.tuple #[.string r, .bool b]) ∧ w' = w := by
  have HC : Hid (Cut s r b) := hc
  clear hc
  go_enter Try.func16, Try.ntmps16
  go_wp2
  go_loop [4] (fun i => ∃ j : Nat, j ≤ s.size ∧ i = .int .i64 j ∧ ∀ m, j ≤ m → m < s.size → Dg (bt s m)) (fun i => (intOf i).toNat)
  case atStart => exact ⟨s.size, Nat.le_refl _, rfl, fun m h1 h2 => by omega⟩
  case round =>
    obtain ⟨j, hj, rfl, hd0⟩ := hrel
    have hd : Hid (∀ m, j ≤ m → m < s.size → Dg (bt s m)) := hd0
    clear hd0
    rcases Nat.eq_zero_or_pos j with h0 | h0
    · subst h0
      have hstop : Hid (Stop s 0) := ⟨by omega, hd.out, fun h => absurd h (by omega)⟩
      by_cases hz : s.size = 0
      · go_wp2
        go_ret2
        exact ⟨ret_cut (back_zero s hstop.out) HC.out, rfl⟩
      · go_wp2
        go_ret2
        exact ⟨ret_cut (back_zero s hstop.out) HC.out, rfl⟩
    · obtain ⟨i, rfl⟩ : ∃ i, j = i + 1 := ⟨j - 1, by omega⟩
      have hi : i < s.size := by omega
      have HB : Hid (bt s i = (s[i]'hi).toNat) := bt_eq s i hi
      by_cases hdg : Dg (s[i]'hi).toNat
      · have HD : Hid (Dg (s[i]'hi).toNat) := hdg
        clear hdg
        go_wp2_with (go_at_call 20; refine (isDigitByte_yes _ HD.out _).mono ?_; rintro e w' ⟨rfl, rfl⟩)
        go_round
        case rel =>
          refine ⟨i, by omega, by go_num, fun m h1 h2 => ?_⟩
          by_cases e : m = i
          · subst e; rw [HB.out]; exact HD.out
          · exact hd.out m (by omega) h2
        case measure => simp [intOf]
      · have HD : Hid (¬ Dg (s[i]'hi).toNat) := hdg
        clear hdg
        have hstop : Hid (Stop s (i + 1)) := ⟨by omega, hd.out, fun _ => by rw [Nat.add_sub_cancel, HB.out]; exact HD.out⟩
        by_cases hz0 : i + 1 = s.size
        · have hz : Hid (i + 1 = s.size) := hz0
          have hz' : (((i : Int) + 1) == (s.size : Int)) = true := by rw [beq_iff_eq]; omega
          clear hz0
          go_wp2_with (go_at_call 20; refine (isDigitByte_no _ HD.out _).mono ?_; rintro e w' ⟨rfl, rfl⟩)
          go_ret2
          have hst : Stop s s.size := by rw [← hz.out]; exact hstop.out
          exact ⟨ret_cut (back_all s hst) HC.out, rfl⟩
        · have hz' : (((i : Int) + 1) == (s.size : Int)) = false := by rw [beq_eq_false_iff_ne]; omega
          by_cases hsg : Sg (s[i]'hi).toNat
          · have HS : Hid (Sg (s[i]'hi).toNat) := hsg
            rcases Nat.eq_zero_or_pos i with h00 | h00
            · subst h00
              have hs1 : (((s[0]'hi).toNat : Int) == 43) = true ∨ (((s[0]'hi).toNat : Int) == 43) = false ∧ (((s[0]'hi).toNat : Int) == 45) = true := by
                rw [beq_iff_eq, beq_eq_false_iff_ne, beq_iff_eq]; unfold Sg at hsg; omega
              clear hsg
              have hend : Hid (Cut s s false) := back_sign_zero s hstop.out (by rw [HB.out]; exact HS.out)
              rcases hs1 with hs1 | ⟨hs1, hs2⟩
              · go_wp2_with (go_at_call 20; refine (isDigitByte_no _ HD.out _).mono ?_; rintro e w' ⟨rfl, rfl⟩)
                go_ret2
                exact ⟨ret_cut hend.out HC.out, rfl⟩
              · go_wp2_with (go_at_call 20; refine (isDigitByte_no _ HD.out _).mono ?_; rintro e w' ⟨rfl, rfl⟩)
                go_ret2
                exact ⟨ret_cut hend.out HC.out, rfl⟩
            · obtain ⟨h, rfl⟩ : ∃ h, i = h + 1 := ⟨i - 1, by omega⟩
              have hs1 : (((s[h + 1]'hi).toNat : Int) == 43) = true ∨ (((s[h + 1]'hi).toNat : Int) == 43) = false ∧ (((s[h + 1]'hi).toNat : Int) == 45) = true := by
                rw [beq_iff_eq, beq_eq_false_iff_ne, beq_iff_eq]; unfold Sg at hsg; omega
              clear hsg
              have hh : h < s.size := by omega
              have HBh : Hid (bt s h = (s[h]'hh).toNat) := bt_eq s h hh
              by_cases he : E (s[h]'hh).toNat
              · have HE : Hid (E (s[h]'hh).toNat) := he
                clear he
                have hx : (s.extract 0 h).size = h := by rw [size_extract]; omega
                obtain ⟨b', hb', hend⟩ : ∃ b' : Bool, HasE (s.extract 0 h) b' ∧ CutIf s (s.extract 0 h) b' := by
                  rcases Classical.em (∃ k, k < h ∧ E (bt s k)) with ⟨k, hk, hek⟩ | hn
                  · refine ⟨true, ⟨fun _ => ⟨k, by rw [hx]; exact hk, by rw [bt_extract s 0 h k (by omega) (by omega), Nat.zero_add]; exact hek⟩, fun _ => rfl⟩, ?_⟩
                    exact back_twice s (h + 1 + 1) h k hstop.out (Or.inr ⟨rfl, by show Sg (bt s (h + 1)); rw [HB.out]; exact HS.out⟩) hk hek
                  · refine ⟨false, ⟨fun h => (by cases h), fun ⟨k, hk, hek⟩ => ?_⟩, ?_⟩
                    · rw [hx] at hk
                      rw [bt_extract s 0 h k (by omega) (by omega), Nat.zero_add] at hek
                      exact absurd ⟨k, hk, hek⟩ hn
                    · exact back_hit s (h + 1 + 1) h hstop.out (by omega) (Or.inr ⟨rfl, by rw [HB.out]; exact HS.out⟩) (by rw [HBh.out]; exact HE.out) (fun k hk he => hn ⟨k, hk, he⟩)
                clear hx
                rcases hs1 with hs1 | ⟨hs1, hs2⟩ <;> cases b'
                all_goals
                  go_wp2_with (first
                    | (go_at_call 20; refine (isDigitByte_no _ HD.out _).mono ?_; rintro e w' ⟨rfl, rfl⟩)
                    | (go_at_call 22; refine (isExpMark_yes _ HE.out _).mono ?_; rintro e w' ⟨rfl, rfl⟩)
                    | (go_at_call 18; refine (hasExp_any (s.extract 0 h) (by simp; omega) _ hb' _).mono ?_; rintro e w' ⟨rfl, rfl⟩))
                  go_ret2
                  exact ⟨ret_cut (by first | exact hend.t | exact hend.f) HC.out, rfl⟩
              · have HE : Hid (¬ E (s[h]'hh).toNat) := he
                clear he
                have hend : Hid (Cut s s false) := back_sign_nomark s (h + 1 + 1) hstop.out (by omega) (by show Sg (bt s (h + 1)); rw [HB.out]; exact HS.out) (by show ¬ E (bt s h); rw [HBh.out]; exact HE.out)
                rcases hs1 with hs1 | ⟨hs1, hs2⟩
                all_goals
                  go_wp2_with (first
                    | (go_at_call 20; refine (isDigitByte_no _ HD.out _).mono ?_; rintro e w' ⟨rfl, rfl⟩)
                    | (go_at_call 22; refine (isExpMark_no _ HE.out _).mono ?_; rintro e w' ⟨rfl, rfl⟩))
                  go_ret2
                  exact ⟨ret_cut hend.out HC.out, rfl⟩
          · have HS : Hid (¬ Sg (s[i]'hi).toNat) := hsg
            have hs1 : (((s[i]'hi).toNat : Int) == 43) = false := by rw [beq_eq_false_iff_ne]; unfold Sg at hsg; omega
            have hs2 : (((s[i]'hi).toNat : Int) == 45) = false := by rw [beq_eq_false_iff_ne]; unfold Sg at hsg; omega
            clear hsg
            by_cases he : E (s[i]'hi).toNat
            · have HE : Hid (E (s[i]'hi).toNat) := he
              clear he
              have hx : (s.extract 0 i).size = i := by rw [size_extract]; omega
              obtain ⟨b', hb', hend⟩ : ∃ b' : Bool, HasE (s.extract 0 i) b' ∧ CutIf s (s.extract 0 i) b' := by
                rcases Classical.em (∃ k, k < i ∧ E (bt s k)) with ⟨k, hk, hek⟩ | hn
                · refine ⟨true, ⟨fun _ => ⟨k, by rw [hx]; exact hk, by rw [bt_extract s 0 i k (by omega) (by omega), Nat.zero_add]; exact hek⟩, fun _ => rfl⟩, ?_⟩
                  exact back_twice s (i + 1) i k hstop.out (Or.inl ⟨rfl, by show ¬ Sg (bt s i); rw [HB.out]; exact HS.out⟩) hk hek
                · refine ⟨false, ⟨fun h => (by cases h), fun ⟨k, hk, hek⟩ => ?_⟩, ?_⟩
                  · rw [hx] at hk
                    rw [bt_extract s 0 i k (by omega) (by omega), Nat.zero_add] at hek
                    exact absurd ⟨k, hk, hek⟩ hn
                  · exact back_hit s (i + 1) i hstop.out (by omega) (Or.inl rfl) (by rw [HB.out]; exact HE.out) (fun k hk he => hn ⟨k, hk, he⟩)
              clear hx
              cases b'
              all_goals
                go_wp2_with (first
                  | (go_at_call 20; refine (isDigitByte_no _ HD.out _).mono ?_; rintro e w' ⟨rfl, rfl⟩)
                  | (go_at_call 22; refine (isExpMark_yes _ HE.out _).mono ?_; rintro e w' ⟨rfl, rfl⟩)
                  | (go_at_call 18; refine (hasExp_any (s.extract 0 i) (by simp; omega) _ hb' _).mono ?_; rintro e w' ⟨rfl, rfl⟩))
                go_ret2
                exact ⟨ret_cut (by first | exact hend.t | exact hend.f) HC.out, rfl⟩
            · have HE : Hid (¬ E (s[i]'hi).toNat) := he
              clear he
              have hend : Hid (Cut s s false) := back_nomark s (i + 1) hstop.out (by omega) (by show ¬ Sg (bt s i); rw [HB.out]; exact HS.out) (by show ¬ E (bt s i); rw [HB.out]; exact HE.out)
              go_wp2_with (first
                | (go_at_call 20; refine (isDigitByte_no _ HD.out _).mono ?_; rintro e w' ⟨rfl, rfl⟩)
                | (go_at_call 22; refine (isExpMark_no _ HE.out _).mono ?_; rintro e w' ⟨rfl, rfl⟩))
              go_ret2
              exact ⟨ret_cut hend.out HC.out, rfl⟩

end Go.Proofs.Qxb6601839a
