/-
  WALKS: namesDNS, the loop.
-/
import Derived.Test.Qxb6601968aWalk3
namespace Go.Proofs.Qxb6601968a
open Go.RowKit Plain

theorem isEmpty_of {s : ByteArray} (h : s.size = 0) : s.toList.isEmpty = true := by
  rw [ByteArray.toList_eq, List.isEmpty_iff]; exact List.length_eq_zero_iff.1 (by rw [← size_len]; exact h)
theorem isEmpty_not {s : ByteArray} (h : s.size ≠ 0) : s.toList.isEmpty = false := by
  rw [ByteArray.toList_eq]
  cases hc : s.data.toList with
  | nil => exact absurd (by rw [size_len, hc]; rfl) h
  | cons _ _ => rfl

/-- What TrimSuffix leaves of nm. -/
def TrimC (nm u : ByteArray) : Prop := (0 < nm.size ∧ bt nm (nm.size - 1) = 42 ∧ u = nm.extract 0 (nm.size - 1)) ∨ (¬ (0 < nm.size ∧ bt nm (nm.size - 1) = 42) ∧ u = nm)
theorem trim_any (nm u : ByteArray) (h : TrimC nm u) (hs : nm.size ≤ 1048576) (w : World) :
    Calls Try.prog 25 #[.string nm, .string ⟨#[42]⟩] w fun e w' => e = .returned (.string u) ∧ w' = w := by
  rcases h with ⟨h0, h1, rfl⟩ | ⟨h, rfl⟩
  · exact trim_yes nm hs h0 h1 w
  · exact trim_no _ hs h w
/-- The name in hand, trimmed, is 'dns': q. -/
def QHit (t : ByteArray) (a : Nat) (q : Bool) : Prop := q = true ↔ Hit t a
theorem trim_ex {t nm : ByteArray} {a k j : Nat} (h : Nm t nm a k j) : ∃ u q, TrimC nm u ∧ (u.toList == [100, 110, 115]) = q ∧ QHit t a q := by
  by_cases hs : 0 < nm.size ∧ bt nm (nm.size - 1) = 42
  · exact ⟨_, _, Or.inl ⟨hs.1, hs.2, rfl⟩, rfl, nm_star h hs.1 hs.2⟩
  · exact ⟨_, _, Or.inr ⟨hs, rfl⟩, rfl, nm_plain h hs⟩

set_option maxRecDepth 1000000 in
set_option maxHeartbeats 4000000 in
theorem names_any (s : ByteArray) (t : ByteArray) (ht : Rest s t) (b : Bool) (hb : Ans t b) (hs : s.size ≤ 1048576) (w : World) :
    Calls Try.prog 21 #[.string s] w fun e w' => e = .returned (.bool b) ∧ w' = w := by
  have HT : Hid (Rest s t) := ht
  have hts : t.size ≤ 1048576 := Nat.le_trans (rest_le ht) hs
  clear ht
  go_enter Try.func21, Try.ntmps21
  go_upto_if 8 with fail
  go_cut [0] (fun e w1 => e = .string t ∧ w1 = w)
  case first =>
    clear hb hts
    by_cases h0 : s.size = 0
    · have he := isEmpty_of h0
      rw [he]
      have hst : Hid (s = t) := by
        rcases HT.out with ⟨h, _, _⟩ | ⟨_, rfl⟩
        · omega
        · exact rfl
      clear HT
      go_wp2
      go_meet
      case rel => exact ⟨by rw [hst.out], rfl⟩
    · have he := isEmpty_not h0
      rw [he]
      have h00 : 0 < s.size := by omega
      rcases HT.out with ⟨_, ho, hr⟩ | ⟨hn, hr⟩
      · have HR : Hid (t = s.extract 1 s.size) := hr
        rw [bt_eq s 0 h00] at ho
        clear hr HT
        obtain ⟨x, hx⟩ : ∃ x, (s[0]'h00).toNat = x := ⟨_, rfl⟩
        rw [hx] at ho
        rcases ho with rfl | rfl | rfl | rfl | rfl | rfl | rfl | rfl | rfl | rfl | rfl | rfl
        all_goals
          go_wp2
          go_meet
          case rel => exact ⟨by rw [HR.out], rfl⟩
      · have HR : Hid (t = s) := hr
        rw [bt_eq s 0 h00] at hn
        clear hr HT
        obtain ⟨x, hx⟩ : ∃ x, (s[0]'h00).toNat = x := ⟨_, rfl⟩
        rw [hx] at hn
        obtain ⟨h1, h2, h3, h4, h5, h6, h7, h8, h9, h10, h11, h12⟩ := not12 (fun h => hn ⟨h00, h⟩)
        clear hn
        go_wp2
        go_meet
        case rel => exact ⟨by rw [HR.out], rfl⟩
  case rest =>
    obtain ⟨rfl, rfl⟩ := hcut
    clear HT hs
    go_wp2
    go_loop [3, 4] (fun v i => ∃ a k : Nat, v = .int .i64 a ∧ i = .int .i64 k ∧ NInv t a k ∧ (t.size < k → a = k)) (fun _ i => t.size + 1 - (intOf i).toNat)
    case atStart => exact ⟨0, 0, rfl, rfl, ⟨⟨by omega, by omega⟩, fun _ => Or.inl rfl, fun m h1 h2 => by omega, fun p h => by omega⟩, fun h => by omega⟩
    case round =>
      obtain ⟨a, k, rfl, rfl, hi0, hl0⟩ := hrel
      have HI : Hid (NInv t a k) := hi0
      have HL : Hid (t.size < k → a = k) := hl0
      have hle := hi0.le
      clear hi0 hl0
      by_cases hk : k ≤ t.size
      · by_cases hc : k = t.size ∨ bt t k = 44
        · -- an item ends at k
          obtain ⟨nm, j, n, HN, hcase⟩ : ∃ (nm : ByteArray) (j : Nat) (n : Int), Nm t nm a k j ∧ FirstC (t.extract a k) n ∧ ((n = -1 ∧ t.extract a k = nm) ∨ (∃ c : Nat, n = c ∧ c < (t.extract a k).size ∧ (t.extract a k).extract 0 c = nm)) := by
            rcases first_col (t.extract a k) with ⟨e, hno⟩ | ⟨c, e, hlt, he, hno⟩
            · exact ⟨_, k, -1, nm_whole HI.out hk hc hno, Or.inl ⟨rfl, hno⟩, Or.inl ⟨rfl, rfl⟩⟩
            · exact ⟨_, a + c, c, nm_cut HI.out hk hc hlt he hno, Or.inr ⟨c, rfl, hlt, he, hno⟩, Or.inr ⟨c, rfl, hlt, rfl⟩⟩
          obtain ⟨HF, hcase⟩ := hcase
          have hsz : (t.extract a k).size = k - a := by rw [size_extract]; omega
          have hnz : nm.size ≤ 1048576 := by have := HN.size; have := HN.item.le; omega
          have HCE : Hid (k = t.size ∨ bt t k = 44) := hc
          obtain ⟨u, q, HU, hq, HQ⟩ := trim_ex HN
          clear HN
          obtain ⟨n0, hn0⟩ : ∃ n0, t.extract a k = n0 := ⟨_, rfl⟩
          rw [hn0] at HF hcase hsz
          by_cases hk2 : k < t.size
          · have h44 : (t[k]'hk2).toNat = 44 := by
              rcases hc with e | e
              · omega
              · rw [bt_eq t k hk2] at e; exact e
            clear hc
            rcases hcase with ⟨rfl, rfl⟩ | ⟨c, rfl, hcl, hnm⟩
            · clear hsz
              cases q
              · go_wp2_with (first
                  | (go_at_call 24; refine (ib_any _ _ HF _).mono ?_; rintro e w1 ⟨rfl, rfl⟩)
                  | (go_at_call 25; refine (trim_any _ _ HU hnz _).mono ?_; rintro e w1 ⟨rfl, rfl⟩))
                go_round
                case rel => exact ⟨k + 1, k + 1, by go_num, by go_num, HI.out.item hk HCE.out (fun h => by have := HQ.2 h; cases this), fun _ => rfl⟩
                case measure => simp [intOf]; omega
              · go_wp2_with (first
                  | (go_at_call 24; refine (ib_any _ _ HF _).mono ?_; rintro e w1 ⟨rfl, rfl⟩)
                  | (go_at_call 25; refine (trim_any _ _ HU hnz _).mono ?_; rintro e w1 ⟨rfl, rfl⟩))
                go_ret
                exact ⟨ret_bool (hb.yes a (HQ.1 rfl)).symm, rfl⟩
            · clear hsz
              cases q
              · go_wp2_with (first
                  | (go_at_call 24; refine (ib_any _ _ HF _).mono ?_; rintro e w1 ⟨rfl, rfl⟩)
                  | (go_at_call 25; refine (trim_any _ _ HU hnz _).mono ?_; rintro e w1 ⟨rfl, rfl⟩))
                go_round
                case rel => exact ⟨k + 1, k + 1, by go_num, by go_num, HI.out.item hk HCE.out (fun h => by have := HQ.2 h; cases this), fun _ => rfl⟩
                case measure => simp [intOf]; omega
              · go_wp2_with (first
                  | (go_at_call 24; refine (ib_any _ _ HF _).mono ?_; rintro e w1 ⟨rfl, rfl⟩)
                  | (go_at_call 25; refine (trim_any _ _ HU hnz _).mono ?_; rintro e w1 ⟨rfl, rfl⟩))
                go_ret
                exact ⟨ret_bool (hb.yes a (HQ.1 rfl)).symm, rfl⟩
          · clear hc
            rcases hcase with ⟨rfl, rfl⟩ | ⟨c, rfl, hcl, hnm⟩
            · clear hsz
              cases q
              · go_wp2_with (first
                  | (go_at_call 24; refine (ib_any _ _ HF _).mono ?_; rintro e w1 ⟨rfl, rfl⟩)
                  | (go_at_call 25; refine (trim_any _ _ HU hnz _).mono ?_; rintro e w1 ⟨rfl, rfl⟩))
                go_round
                case rel => exact ⟨k + 1, k + 1, by go_num, by go_num, HI.out.item hk HCE.out (fun h => by have := HQ.2 h; cases this), fun _ => rfl⟩
                case measure => simp [intOf]; omega
              · go_wp2_with (first
                  | (go_at_call 24; refine (ib_any _ _ HF _).mono ?_; rintro e w1 ⟨rfl, rfl⟩)
                  | (go_at_call 25; refine (trim_any _ _ HU hnz _).mono ?_; rintro e w1 ⟨rfl, rfl⟩))
                go_ret
                exact ⟨ret_bool (hb.yes a (HQ.1 rfl)).symm, rfl⟩
            · clear hsz
              cases q
              · go_wp2_with (first
                  | (go_at_call 24; refine (ib_any _ _ HF _).mono ?_; rintro e w1 ⟨rfl, rfl⟩)
                  | (go_at_call 25; refine (trim_any _ _ HU hnz _).mono ?_; rintro e w1 ⟨rfl, rfl⟩))
                go_round
                case rel => exact ⟨k + 1, k + 1, by go_num, by go_num, HI.out.item hk HCE.out (fun h => by have := HQ.2 h; cases this), fun _ => rfl⟩
                case measure => simp [intOf]; omega
              · go_wp2_with (first
                  | (go_at_call 24; refine (ib_any _ _ HF _).mono ?_; rintro e w1 ⟨rfl, rfl⟩)
                  | (go_at_call 25; refine (trim_any _ _ HU hnz _).mono ?_; rintro e w1 ⟨rfl, rfl⟩))
                go_ret
                exact ⟨ret_bool (hb.yes a (HQ.1 rfl)).symm, rfl⟩
        · have hk2 : k < t.size := by omega
          have hb2 : Hid (bt t k ≠ 44) := fun e => hc (Or.inr e)
          clear hc
          obtain ⟨x, hx⟩ : ∃ x, (t[k]'hk2).toNat = x := ⟨_, rfl⟩
          have hne : ((x : Int) != 44) = true := by
            have := hb2.out
            rw [bt_eq t k hk2, hx] at this
            rw [bne_iff_ne]; omega
          go_wp2
          go_round
          case rel => exact ⟨a, k + 1, by go_num, by go_num, HI.out.next hk2 hb2.out, fun h => by omega⟩
          case measure => simp [intOf]; omega
      · have hno : Hid (false = b) := (hb.no (HI.out.end (by omega) (HL.out (by omega)))).symm
        go_wp2
        go_ret
        exact ⟨ret_bool hno.out, rfl⟩

end Go.Proofs.Qxb6601968a
