/-
  WALKS: the class predicates and addClass: some set, some answer; no panic.
-/
import Derived.Test.Qxb6602360aInvert
namespace Go.Proofs.Qxb6602360a
open Go.RowKit Plain

/-- The call hands back a bool. -/
def RetBool (e : Ending) : Prop := ∃ v, e = .returned (.bool v)

/-- Function f answers a bool at every byte, and does nothing else. -/
def InOk (f : FuncId) : Prop := ∀ (x : Nat) (w : World), x < 256 → Calls Try.prog f #[.int .u8 x] w fun e w' => RetBool e ∧ w' = w

set_option maxRecDepth 1000000 in
set_option maxHeartbeats 1000000 in
theorem in40 : InOk 40 := by
  intro x w hx
  go_enter Try.func40, Try.ntmps40
  go_wp2
  all_goals (go_ret; exact ⟨⟨_, rfl⟩, rfl⟩)
set_option maxRecDepth 1000000 in
set_option maxHeartbeats 1000000 in
theorem in41 : InOk 41 := by
  intro x w hx
  go_enter Try.func41, Try.ntmps41
  go_wp2
  all_goals (go_ret; exact ⟨⟨_, rfl⟩, rfl⟩)
set_option maxRecDepth 1000000 in
set_option maxHeartbeats 1000000 in
theorem in39 : InOk 39 := by
  intro x w hx
  go_enter Try.func39, Try.ntmps39
  go_wp2_with (first
    | (go_at_call 40; refine (in40 _ _ hx).mono ?_; rintro e w1 ⟨⟨v, rfl⟩, rfl⟩)
    | (go_at_call 41; refine (in41 _ _ hx).mono ?_; rintro e w1 ⟨⟨v, rfl⟩, rfl⟩))
  all_goals (go_ret; exact ⟨⟨_, rfl⟩, rfl⟩)
set_option maxRecDepth 1000000 in
set_option maxHeartbeats 1000000 in
theorem in42 : InOk 42 := by
  intro x w hx
  go_enter Try.func42, Try.ntmps42
  go_wp2
  all_goals (go_ret; exact ⟨⟨_, rfl⟩, rfl⟩)
set_option maxRecDepth 1000000 in
set_option maxHeartbeats 1000000 in
theorem in43 : InOk 43 := by
  intro x w hx
  go_enter Try.func43, Try.ntmps43
  go_wp2
  all_goals (go_ret; exact ⟨⟨_, rfl⟩, rfl⟩)
set_option maxRecDepth 1000000 in
set_option maxHeartbeats 1000000 in
theorem in44 : InOk 44 := by
  intro x w hx
  go_enter Try.func44, Try.ntmps44
  go_wp2
  all_goals (go_ret; exact ⟨⟨_, rfl⟩, rfl⟩)
set_option maxRecDepth 1000000 in
set_option maxHeartbeats 1000000 in
theorem in45 : InOk 45 := by
  intro x w hx
  go_enter Try.func45, Try.ntmps45
  go_wp2
  all_goals (go_ret; exact ⟨⟨_, rfl⟩, rfl⟩)
set_option maxRecDepth 1000000 in
set_option maxHeartbeats 1000000 in
theorem in46 : InOk 46 := by
  intro x w hx
  go_enter Try.func46, Try.ntmps46
  go_wp2
  all_goals (go_ret; exact ⟨⟨_, rfl⟩, rfl⟩)
set_option maxRecDepth 1000000 in
set_option maxHeartbeats 1000000 in
theorem in47 : InOk 47 := by
  intro x w hx
  go_enter Try.func47, Try.ntmps47
  go_wp2_with (first
    | (go_at_call 40; refine (in40 _ _ hx).mono ?_; rintro e w1 ⟨⟨v, rfl⟩, rfl⟩)
    | (go_at_call 41; refine (in41 _ _ hx).mono ?_; rintro e w1 ⟨⟨v, rfl⟩, rfl⟩))
  all_goals (go_ret; exact ⟨⟨_, rfl⟩, rfl⟩)
set_option maxRecDepth 1000000 in
set_option maxHeartbeats 1000000 in
theorem in48 : InOk 48 := by
  intro x w hx
  go_enter Try.func48, Try.ntmps48
  go_wp2
  all_goals (go_ret; exact ⟨⟨_, rfl⟩, rfl⟩)
set_option maxRecDepth 1000000 in
set_option maxHeartbeats 1000000 in
theorem in49 : InOk 49 := by
  intro x w hx
  go_enter Try.func49, Try.ntmps49
  go_wp2
  all_goals (go_ret; exact ⟨⟨_, rfl⟩, rfl⟩)
set_option maxRecDepth 1000000 in
set_option maxHeartbeats 1000000 in
theorem in50 : InOk 50 := by
  intro x w hx
  go_enter Try.func50, Try.ntmps50
  go_wp2_with (first
    | (go_at_call 40; refine (in40 _ _ hx).mono ?_; rintro e w1 ⟨⟨v, rfl⟩, rfl⟩)
    | (go_at_call 41; refine (in41 _ _ hx).mono ?_; rintro e w1 ⟨⟨v, rfl⟩, rfl⟩))
  all_goals (go_ret; exact ⟨⟨_, rfl⟩, rfl⟩)

theorem cases12 (p : Prop) (b1 b2 b3 b4 b5 b6 b7 b8 b9 b10 b11 b12 : Bool) (H1 : b1 = true → p) (H2 : b1 = false → b2 = true → p) (H3 : b1 = false → b2 = false → b3 = true → p) (H4 : b1 = false → b2 = false → b3 = false → b4 = true → p) (H5 : b1 = false → b2 = false → b3 = false → b4 = false → b5 = true → p) (H6 : b1 = false → b2 = false → b3 = false → b4 = false → b5 = false → b6 = true → p) (H7 : b1 = false → b2 = false → b3 = false → b4 = false → b5 = false → b6 = false → b7 = true → p) (H8 : b1 = false → b2 = false → b3 = false → b4 = false → b5 = false → b6 = false → b7 = false → b8 = true → p) (H9 : b1 = false → b2 = false → b3 = false → b4 = false → b5 = false → b6 = false → b7 = false → b8 = false → b9 = true → p) (H10 : b1 = false → b2 = false → b3 = false → b4 = false → b5 = false → b6 = false → b7 = false → b8 = false → b9 = false → b10 = true → p) (H11 : b1 = false → b2 = false → b3 = false → b4 = false → b5 = false → b6 = false → b7 = false → b8 = false → b9 = false → b10 = false → b11 = true → p) (H12 : b1 = false → b2 = false → b3 = false → b4 = false → b5 = false → b6 = false → b7 = false → b8 = false → b9 = false → b10 = false → b11 = false → b12 = true → p) (H13 : b1 = false → b2 = false → b3 = false → b4 = false → b5 = false → b6 = false → b7 = false → b8 = false → b9 = false → b10 = false → b11 = false → b12 = false → p) : p := by
  cases h1 : b1 with
  | true => exact H1 h1
  | false =>
    cases h2 : b2 with
    | true => exact H2 h1 h2
    | false =>
      cases h3 : b3 with
      | true => exact H3 h1 h2 h3
      | false =>
        cases h4 : b4 with
        | true => exact H4 h1 h2 h3 h4
        | false =>
          cases h5 : b5 with
          | true => exact H5 h1 h2 h3 h4 h5
          | false =>
            cases h6 : b6 with
            | true => exact H6 h1 h2 h3 h4 h5 h6
            | false =>
              cases h7 : b7 with
              | true => exact H7 h1 h2 h3 h4 h5 h6 h7
              | false =>
                cases h8 : b8 with
                | true => exact H8 h1 h2 h3 h4 h5 h6 h7 h8
                | false =>
                  cases h9 : b9 with
                  | true => exact H9 h1 h2 h3 h4 h5 h6 h7 h8 h9
                  | false =>
                    cases h10 : b10 with
                    | true => exact H10 h1 h2 h3 h4 h5 h6 h7 h8 h9 h10
                    | false =>
                      cases h11 : b11 with
                      | true => exact H11 h1 h2 h3 h4 h5 h6 h7 h8 h9 h10 h11
                      | false =>
                        cases h12 : b12 with
                        | true => exact H12 h1 h2 h3 h4 h5 h6 h7 h8 h9 h10 h11 h12
                        | false =>
                          exact H13 h1 h2 h3 h4 h5 h6 h7 h8 h9 h10 h11 h12

set_option maxRecDepth 1000000 in
set_option maxHeartbeats 8000000 in
theorem addClass_any (blk : Nat) (t : TypeId) (s : S4) (hs : s.ok) (nm : ByteArray) (w : World) (h : HSet w blk t s) :
    Calls Try.prog 34 #[.pointer (some ⟨blk, 0, none⟩), .string nm] w fun e w' => RetBool e ∧ ∃ s' : S4, s'.ok ∧ HSet w' blk t s' ∧ Upd blk w w' := by
  have H : Hid (HSet w blk t s) := h
  have HS : Hid s.ok := hs
  clear h hs
  refine cases12 _ (nm.toList == [97, 108, 110, 117, 109]) (nm.toList == [97, 108, 112, 104, 97]) (nm.toList == [98, 108, 97, 110, 107]) (nm.toList == [99, 110, 116, 114, 108]) (nm.toList == [100, 105, 103, 105, 116]) (nm.toList == [103, 114, 97, 112, 104]) (nm.toList == [108, 111, 119, 101, 114]) (nm.toList == [112, 114, 105, 110, 116]) (nm.toList == [112, 117, 110, 99, 116]) (nm.toList == [115, 112, 97, 99, 101]) (nm.toList == [117, 112, 112, 101, 114]) (nm.toList == [120, 100, 105, 103, 105, 116]) ?_ ?_ ?_ ?_ ?_ ?_ ?_ ?_ ?_ ?_ ?_ ?_ ?_ <;> intros
  all_goals
    go_enter Try.func34, Try.ntmps34
    go_wp2
  all_goals first
    | (go_ret; exact ⟨⟨_, rfl⟩, s, HS.out, H.out, Upd.refl _ _⟩)
    | skip
  all_goals
    go_loopg [6, 32] 128 (fun g _ v wr => ∃ (i : Nat) (s' : S4), i + g = 128 ∧ v = .int .i64 i ∧ s'.ok ∧ HSet wr blk t s' ∧ Upd blk w wr)
    case atStart => exact ⟨0, s, by omega, rfl, HS.out, H.out, Upd.refl _ _⟩
    case round =>
      obtain ⟨i, s', hig, rfl, ho0, hh0, hu0⟩ := hrel
      have HO : Hid (s'.ok) := ho0
      have HH : Hid (HSet wr blk t s') := hh0
      have HU : Hid (Upd blk w wr) := hu0
      clear ho0 hh0 hu0
      cases gk with
      | zero =>
        obtain rfl : i = 128 := by omega
        go_wp2
        go_ret
        exact ⟨⟨_, rfl⟩, s', HO.out, HH.out, HU.out⟩
      | succ g =>
        have hi : i < 128 := by omega
        have hx8 : i < 256 := by omega
        go_wp2_with (first
                | (go_at_call 39; refine (in39 _ _ hx8).mono ?_; rintro e w1 ⟨⟨v, rfl⟩, hw1⟩; rw [hw1])
                | (go_at_call 40; refine (in40 _ _ hx8).mono ?_; rintro e w1 ⟨⟨v, rfl⟩, hw1⟩; rw [hw1])
                | (go_at_call 41; refine (in41 _ _ hx8).mono ?_; rintro e w1 ⟨⟨v, rfl⟩, hw1⟩; rw [hw1])
                | (go_at_call 42; refine (in42 _ _ hx8).mono ?_; rintro e w1 ⟨⟨v, rfl⟩, hw1⟩; rw [hw1])
                | (go_at_call 43; refine (in43 _ _ hx8).mono ?_; rintro e w1 ⟨⟨v, rfl⟩, hw1⟩; rw [hw1])
                | (go_at_call 44; refine (in44 _ _ hx8).mono ?_; rintro e w1 ⟨⟨v, rfl⟩, hw1⟩; rw [hw1])
                | (go_at_call 45; refine (in45 _ _ hx8).mono ?_; rintro e w1 ⟨⟨v, rfl⟩, hw1⟩; rw [hw1])
                | (go_at_call 46; refine (in46 _ _ hx8).mono ?_; rintro e w1 ⟨⟨v, rfl⟩, hw1⟩; rw [hw1])
                | (go_at_call 47; refine (in47 _ _ hx8).mono ?_; rintro e w1 ⟨⟨v, rfl⟩, hw1⟩; rw [hw1])
                | (go_at_call 48; refine (in48 _ _ hx8).mono ?_; rintro e w1 ⟨⟨v, rfl⟩, hw1⟩; rw [hw1])
                | (go_at_call 49; refine (in49 _ _ hx8).mono ?_; rintro e w1 ⟨⟨v, rfl⟩, hw1⟩; rw [hw1])
                | (go_at_call 50; refine (in50 _ _ hx8).mono ?_; rintro e w1 ⟨⟨v, rfl⟩, hw1⟩; rw [hw1])
                | (go_at_call 51; refine (add_any blk t s' HO.out i hx8 _ HH.out).mono ?_; rintro e w2 ⟨rfl, h2, u2⟩))
        all_goals
          go_roundg g
          case measure => omega
          case rel => first | exact ⟨i + 1, _, by omega, by go_num, HO.out, HH.out, HU.out⟩ | exact ⟨i + 1, _, by omega, by go_num, S4.ok_add HO.out i hx8, h2, HU.out.trans u2⟩

end Go.Proofs.Qxb6602360a
