/-
  WALKS: modelNamesDNS.
-/
import Derived.Test.Qxb6601968aWalk1
import Derived.Deep.Cut
import Derived.Deep.CutRange
import Derived.Deep.DeepCutAuto
import Derived.Deep.Light
namespace Go.Proofs.Qxb6601968a
open Go.RowKit Plain

/-- What is left of e behind a leading operator. -/
def Rest (e t : ByteArray) : Prop := (0 < e.size ∧ Op12 (bt e 0) ∧ t = e.extract 1 e.size) ∨ (¬ (0 < e.size ∧ Op12 (bt e 0)) ∧ t = e)
theorem rest_ex (e : ByteArray) : ∃ t, Rest e t := by
  rcases Classical.em (0 < e.size ∧ Op12 (bt e 0)) with h | h
  · exact ⟨_, .inl ⟨h.1, h.2, rfl⟩⟩
  · exact ⟨_, .inr ⟨h, rfl⟩⟩
theorem rest_le {e t : ByteArray} (h : Rest e t) : t.size ≤ e.size := by
  rcases h with ⟨_, _, rfl⟩ | ⟨_, rfl⟩
  · rw [size_extract]; omega
  · exact Nat.le_refl _

/-- The answer of isTemplateOperator. -/
def OpB (c : Nat) (b : Bool) : Prop := b = true ↔ Op12 c
theorem opB_ex (c : Nat) : ∃ b, OpB c b := by
  rcases Classical.em (Op12 c) with h | h
  · exact ⟨true, fun _ => h, fun _ => rfl⟩
  · exact ⟨false, fun e => (by cases e), fun e => absurd e h⟩
theorem op_any (c : Nat) (b : Bool) (h : OpB c b) (w : World) :
    Calls Try.prog 12 #[.int .u8 c] w fun e w' => e = .returned (.bool b) ∧ w' = w := by
  cases b with
  | true => exact op_yes c (h.1 rfl) w
  | false => exact op_no c (fun e => by have := h.2 e; cases this) w

def RestB (s t : ByteArray) (ob : Bool) : Prop := match ob with | true => s.extract 1 s.size = t | false => s = t
theorem RestB.t {s t : ByteArray} (h : RestB s t true) : s.extract 1 s.size = t := h
theorem RestB.f {s t : ByteArray} (h : RestB s t false) : s = t := h
theorem rest_b {s t : ByteArray} (h : Rest s t) (h0 : 0 < s.size) {ob : Bool} (hob : OpB (s[0]'h0).toNat ob) : RestB s t ob := by
  rw [← bt_eq s 0 h0] at hob
  cases ob with
  | true =>
    rcases h with ⟨_, _, rfl⟩ | ⟨hn, _⟩
    · exact rfl
    · exact absurd ⟨h0, hob.1 rfl⟩ hn
  | false =>
    rcases h with ⟨_, ho, _⟩ | ⟨_, rfl⟩
    · have := hob.2 ho; cases this
    · exact rfl

set_option linter.unusedSimpArgs false in
set_option maxRecDepth 1000000 in
set_option maxHeartbeats 4000000 in
theorem model_any (s : ByteArray) (t : ByteArray) (ht : Rest s t) (b : Bool) (hb : Ans t b) (hs : s.size ≤ 1048576) (w : World) :
    Calls Try.prog 10 #[.string s] w fun e w' => e = .returned (.bool b) ∧ w' = w := by
  have HT : Hid (Rest s t) := ht
  have hts : t.size ≤ 1048576 := Nat.le_trans (rest_le ht) hs
  clear ht
  by_cases h0 : 0 < s.size
  · obtain ⟨ob, hob⟩ := opB_ex (s[0]'h0).toNat
    go_enter Try.func10, Try.ntmps10
    go_upto_if 12 with (go_at_call 12; refine (op_any _ ob hob _).mono ?_; rintro e w' ⟨rfl, rfl⟩)
    go_cut [0] (fun e w1 => e = .string t ∧ w1 = w')
    case first =>
      have HR := rest_b HT.out h0 hob
      cases ob
      · go_wp2
        go_meet
        case rel => exact ⟨by rw [HR.f], rfl⟩
      · go_wp2
        go_meet
        case rel => exact ⟨by rw [HR.t], rfl⟩
    case rest =>
      obtain ⟨rfl, rfl⟩ := hcut
      clear hob HT
      go_wp2
      go_loop [3] (fun i => ∃ k : Nat, k ≤ t.size ∧ i = .int .i64 k ∧ ∀ p, p < k → ¬ Hit t p) (fun i => t.size - (intOf i).toNat)
      case atStart => exact ⟨0, Nat.zero_le _, rfl, fun m hm => absurd hm (Nat.not_lt_zero _)⟩
      case round =>
        obtain ⟨k, hk, rfl, hd0⟩ := hrel
        have hd : Hid (∀ p, p < k → ¬ Hit t p) := hd0
        clear hd0
        by_cases hlt : k + 3 ≤ t.size
        · have hk0 : k < t.size := by omega
          have hk1 : k + 1 < t.size := by omega
          have hk2 : k + 2 < t.size := by omega
          have fin : Hid (¬ Hit t k → ∀ p, p < k + 1 → ¬ Hit t p) := fun h p hp => by
            by_cases e : p = k
            · subst e; exact h
            · exact hd.out p (by omega)
          rcases Nat.eq_zero_or_pos k with hz | hz
          · subst hz
            by_cases hk3 : 0 + 3 < t.size
            · by_cases hk4 : 0 + 4 < t.size
              · obtain ⟨x0, hx0, hh0⟩ : ∃ x : Nat, (t[0]'(by omega)).toNat = x ∧ Hid (bt t (0) = x) := ⟨_, rfl, bt_eq t (0) (by omega)⟩
                obtain ⟨x1, hx1, hh1⟩ : ∃ x : Nat, (t[1]'(by omega)).toNat = x ∧ Hid (bt t (0 + 1) = x) := ⟨_, rfl, bt_eq t (0 + 1) (by omega)⟩
                obtain ⟨x2, hx2, hh2⟩ : ∃ x : Nat, (t[2]'(by omega)).toNat = x ∧ Hid (bt t (0 + 2) = x) := ⟨_, rfl, bt_eq t (0 + 2) (by omega)⟩
                obtain ⟨x3, hx3, hh3⟩ : ∃ x : Nat, (t[3]'(by omega)).toNat = x ∧ Hid (bt t (0 + 3) = x) := ⟨_, rfl, bt_eq t (0 + 3) (by omega)⟩
                obtain ⟨x4, hx4, hh4⟩ : ∃ x : Nat, (t[4]'(by omega)).toNat = x ∧ Hid (bt t (0 + 4) = x) := ⟨_, rfl, bt_eq t (0 + 4) (by omega)⟩
                go_wp2
                all_goals first
                  | (go_ret; refine ⟨ret_bool (hb.yes (0) ?_).symm, rfl⟩; go_light; unfold Hit; rw [hh0.out, hh1.out, hh2.out, hh3.out, hh4.out]; simp only [beq_iff_eq, bne_iff_ne, beq_eq_false_iff_ne, bne_eq_false_iff_eq, true_or, true_and] at *; omega)
                  | (go_round
                     case rel => (refine ⟨1, by omega, by go_num, fin.out ?_⟩; go_light; unfold Hit; rw [hh0.out, hh1.out, hh2.out, hh3.out, hh4.out]; simp only [beq_iff_eq, bne_iff_ne, beq_eq_false_iff_ne, bne_eq_false_iff_eq, true_or, true_and] at *; omega)
                     case measure => (simp [intOf]; omega))
              · obtain ⟨x0, hx0, hh0⟩ : ∃ x : Nat, (t[0]'(by omega)).toNat = x ∧ Hid (bt t (0) = x) := ⟨_, rfl, bt_eq t (0) (by omega)⟩
                obtain ⟨x1, hx1, hh1⟩ : ∃ x : Nat, (t[1]'(by omega)).toNat = x ∧ Hid (bt t (0 + 1) = x) := ⟨_, rfl, bt_eq t (0 + 1) (by omega)⟩
                obtain ⟨x2, hx2, hh2⟩ : ∃ x : Nat, (t[2]'(by omega)).toNat = x ∧ Hid (bt t (0 + 2) = x) := ⟨_, rfl, bt_eq t (0 + 2) (by omega)⟩
                obtain ⟨x3, hx3, hh3⟩ : ∃ x : Nat, (t[3]'(by omega)).toNat = x ∧ Hid (bt t (0 + 3) = x) := ⟨_, rfl, bt_eq t (0 + 3) (by omega)⟩
                go_wp2
                all_goals first
                  | (go_ret; refine ⟨ret_bool (hb.yes (0) ?_).symm, rfl⟩; go_light; unfold Hit; rw [hh0.out, hh1.out, hh2.out, hh3.out]; simp only [beq_iff_eq, bne_iff_ne, beq_eq_false_iff_ne, bne_eq_false_iff_eq, true_or, true_and] at *; omega)
                  | (go_round
                     case rel => (refine ⟨1, by omega, by go_num, fin.out ?_⟩; go_light; unfold Hit; rw [hh0.out, hh1.out, hh2.out, hh3.out]; simp only [beq_iff_eq, bne_iff_ne, beq_eq_false_iff_ne, bne_eq_false_iff_eq, true_or, true_and] at *; omega)
                     case measure => (simp [intOf]; omega))
            · obtain ⟨x0, hx0, hh0⟩ : ∃ x : Nat, (t[0]'(by omega)).toNat = x ∧ Hid (bt t (0) = x) := ⟨_, rfl, bt_eq t (0) (by omega)⟩
              obtain ⟨x1, hx1, hh1⟩ : ∃ x : Nat, (t[1]'(by omega)).toNat = x ∧ Hid (bt t (0 + 1) = x) := ⟨_, rfl, bt_eq t (0 + 1) (by omega)⟩
              obtain ⟨x2, hx2, hh2⟩ : ∃ x : Nat, (t[2]'(by omega)).toNat = x ∧ Hid (bt t (0 + 2) = x) := ⟨_, rfl, bt_eq t (0 + 2) (by omega)⟩
              go_wp2
              all_goals first
                | (go_ret; refine ⟨ret_bool (hb.yes (0) ?_).symm, rfl⟩; go_light; unfold Hit; rw [hh0.out, hh1.out, hh2.out]; simp only [beq_iff_eq, bne_iff_ne, beq_eq_false_iff_ne, bne_eq_false_iff_eq, true_or, true_and] at *; omega)
                | (go_round
                   case rel => (refine ⟨1, by omega, by go_num, fin.out ?_⟩; go_light; unfold Hit; rw [hh0.out, hh1.out, hh2.out]; simp only [beq_iff_eq, bne_iff_ne, beq_eq_false_iff_ne, bne_eq_false_iff_eq, true_or, true_and] at *; omega)
                   case measure => (simp [intOf]; omega))
          · obtain ⟨m, rfl⟩ : ∃ m, k = m + 1 := ⟨k - 1, by omega⟩
            by_cases hk3 : m + 1 + 3 < t.size
            · by_cases hk4 : m + 1 + 4 < t.size
              · obtain ⟨xm, hxm, hhm⟩ : ∃ x : Nat, (t[m]'(by omega)).toNat = x ∧ Hid (bt t (m) = x) := ⟨_, rfl, bt_eq t (m) (by omega)⟩
                obtain ⟨x0, hx0, hh0⟩ : ∃ x : Nat, (t[m + 1]'(by omega)).toNat = x ∧ Hid (bt t (m + 1) = x) := ⟨_, rfl, bt_eq t (m + 1) (by omega)⟩
                obtain ⟨x1, hx1, hh1⟩ : ∃ x : Nat, (t[m + 1 + 1]'(by omega)).toNat = x ∧ Hid (bt t (m + 1 + 1) = x) := ⟨_, rfl, bt_eq t (m + 1 + 1) (by omega)⟩
                obtain ⟨x2, hx2, hh2⟩ : ∃ x : Nat, (t[m + 1 + 2]'(by omega)).toNat = x ∧ Hid (bt t (m + 1 + 2) = x) := ⟨_, rfl, bt_eq t (m + 1 + 2) (by omega)⟩
                obtain ⟨x3, hx3, hh3⟩ : ∃ x : Nat, (t[m + 1 + 3]'(by omega)).toNat = x ∧ Hid (bt t (m + 1 + 3) = x) := ⟨_, rfl, bt_eq t (m + 1 + 3) (by omega)⟩
                obtain ⟨x4, hx4, hh4⟩ : ∃ x : Nat, (t[m + 1 + 3 + 1]'(by omega)).toNat = x ∧ Hid (bt t (m + 1 + 4) = x) := ⟨_, rfl, bt_eq t (m + 1 + 4) (by omega)⟩
                go_wp2
                all_goals first
                  | (go_ret; refine ⟨ret_bool (hb.yes (m + 1) ?_).symm, rfl⟩; go_light; unfold Hit; rw [hh0.out, hh1.out, hh2.out, hh3.out, hh4.out, Nat.add_sub_cancel, hhm.out]; simp only [beq_iff_eq, bne_iff_ne, beq_eq_false_iff_ne, bne_eq_false_iff_eq, true_or, true_and] at *; omega)
                  | (go_round
                     case rel => (refine ⟨m + 1 + 1, by omega, by go_num, fin.out ?_⟩; go_light; unfold Hit; rw [hh0.out, hh1.out, hh2.out, hh3.out, hh4.out, Nat.add_sub_cancel, hhm.out]; simp only [beq_iff_eq, bne_iff_ne, beq_eq_false_iff_ne, bne_eq_false_iff_eq, true_or, true_and] at *; omega)
                     case measure => (simp [intOf]; omega))
              · obtain ⟨xm, hxm, hhm⟩ : ∃ x : Nat, (t[m]'(by omega)).toNat = x ∧ Hid (bt t (m) = x) := ⟨_, rfl, bt_eq t (m) (by omega)⟩
                obtain ⟨x0, hx0, hh0⟩ : ∃ x : Nat, (t[m + 1]'(by omega)).toNat = x ∧ Hid (bt t (m + 1) = x) := ⟨_, rfl, bt_eq t (m + 1) (by omega)⟩
                obtain ⟨x1, hx1, hh1⟩ : ∃ x : Nat, (t[m + 1 + 1]'(by omega)).toNat = x ∧ Hid (bt t (m + 1 + 1) = x) := ⟨_, rfl, bt_eq t (m + 1 + 1) (by omega)⟩
                obtain ⟨x2, hx2, hh2⟩ : ∃ x : Nat, (t[m + 1 + 2]'(by omega)).toNat = x ∧ Hid (bt t (m + 1 + 2) = x) := ⟨_, rfl, bt_eq t (m + 1 + 2) (by omega)⟩
                obtain ⟨x3, hx3, hh3⟩ : ∃ x : Nat, (t[m + 1 + 3]'(by omega)).toNat = x ∧ Hid (bt t (m + 1 + 3) = x) := ⟨_, rfl, bt_eq t (m + 1 + 3) (by omega)⟩
                go_wp2
                all_goals first
                  | (go_ret; refine ⟨ret_bool (hb.yes (m + 1) ?_).symm, rfl⟩; go_light; unfold Hit; rw [hh0.out, hh1.out, hh2.out, hh3.out, Nat.add_sub_cancel, hhm.out]; simp only [beq_iff_eq, bne_iff_ne, beq_eq_false_iff_ne, bne_eq_false_iff_eq, true_or, true_and] at *; omega)
                  | (go_round
                     case rel => (refine ⟨m + 1 + 1, by omega, by go_num, fin.out ?_⟩; go_light; unfold Hit; rw [hh0.out, hh1.out, hh2.out, hh3.out, Nat.add_sub_cancel, hhm.out]; simp only [beq_iff_eq, bne_iff_ne, beq_eq_false_iff_ne, bne_eq_false_iff_eq, true_or, true_and] at *; omega)
                     case measure => (simp [intOf]; omega))
            · obtain ⟨xm, hxm, hhm⟩ : ∃ x : Nat, (t[m]'(by omega)).toNat = x ∧ Hid (bt t (m) = x) := ⟨_, rfl, bt_eq t (m) (by omega)⟩
              obtain ⟨x0, hx0, hh0⟩ : ∃ x : Nat, (t[m + 1]'(by omega)).toNat = x ∧ Hid (bt t (m + 1) = x) := ⟨_, rfl, bt_eq t (m + 1) (by omega)⟩
              obtain ⟨x1, hx1, hh1⟩ : ∃ x : Nat, (t[m + 1 + 1]'(by omega)).toNat = x ∧ Hid (bt t (m + 1 + 1) = x) := ⟨_, rfl, bt_eq t (m + 1 + 1) (by omega)⟩
              obtain ⟨x2, hx2, hh2⟩ : ∃ x : Nat, (t[m + 1 + 2]'(by omega)).toNat = x ∧ Hid (bt t (m + 1 + 2) = x) := ⟨_, rfl, bt_eq t (m + 1 + 2) (by omega)⟩
              go_wp2
              all_goals first
                | (go_ret; refine ⟨ret_bool (hb.yes (m + 1) ?_).symm, rfl⟩; go_light; unfold Hit; rw [hh0.out, hh1.out, hh2.out, Nat.add_sub_cancel, hhm.out]; simp only [beq_iff_eq, bne_iff_ne, beq_eq_false_iff_ne, bne_eq_false_iff_eq, true_or, true_and] at *; omega)
                | (go_round
                   case rel => (refine ⟨m + 1 + 1, by omega, by go_num, fin.out ?_⟩; go_light; unfold Hit; rw [hh0.out, hh1.out, hh2.out, Nat.add_sub_cancel, hhm.out]; simp only [beq_iff_eq, bne_iff_ne, beq_eq_false_iff_ne, bne_eq_false_iff_eq, true_or, true_and] at *; omega)
                   case measure => (simp [intOf]; omega))
        · go_wp2
          go_ret
          refine ⟨ret_bool (hb.no fun p hp => ?_).symm, rfl⟩
          by_cases e : p < k
          · exact hd.out p e hp
          · have := hp.2.1; omega
  · have ht0 : t.size = 0 := by have := rest_le HT.out; omega
    have hst : Hid (s = t) := by
      rcases HT.out with ⟨h, _, _⟩ | ⟨_, rfl⟩
      · exact absurd h h0
      · exact rfl
    have hz : s.size = 0 := by omega
    have hno : Hid (false = b) := (hb.no fun p hp => by have := hp.2.1; omega).symm
    clear HT hb ht0 hts h0
    go_enter Try.func10, Try.ntmps10
    go_wp2
    refine wp_loop_rounds 1 ?_
    rw [rounds_succ]
    go_wp2
    go_ret
    exact ⟨ret_bool hno.out, rfl⟩

end Go.Proofs.Qxb6601968a
