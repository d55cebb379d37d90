/-
  WALKS: parseExponent, strings.IndexByte at the number's other bytes, bytes.IndexByte.
-/
import Derived.Test.Qxb6602476aNum5
import Derived.Laws.Externs
import Derived.Lib.BytesEntry
import Derived.Laws.Runes
namespace Go.Proofs.Qxb6602476a
open Go.RowKit Plain

/-- The bytes of a row that begins its block. -/
structure Row (w : World) (g N : Nat) (v : Nat → Nat) : Prop where
  small : ∀ i, v i < 256
  cell : ∀ k, k < N → w.cell? ⟨g, k, none⟩ = some (.int .u8 (v k))
/-- Where the exponent's digits begin. -/
def PeHead (v : Nat → Nat) (z z2 : Nat) (neg : Bool) : Prop := (v z ≠ 45 ∧ v z ≠ 43 ∧ z2 = z ∧ neg = false) ∨ (v z = 43 ∧ z2 = z + 1 ∧ neg = false) ∨ (v z = 45 ∧ z2 = z + 1 ∧ neg = true)
def PeVal (v : Nat → Nat) (z2 l : Nat) (neg : Bool) : Int := if neg = true then -(clampE v z2 l : Int) else clampE v z2 l

noncomputable def peT : Code := ((Try.f28.body.bind (tailAt 4)).getD .skip)
theorem clamp_min {v : Nat → Nat} {z j x c : Nat} (hx : x = clampE v z j) (hc : v (z + j) = c) : min (x * 10 + (c - 48)) 1073741824 = clampE v z (j + 1) := by
  simp only [clampE]; rw [hc, ← hx]

set_option maxRecDepth 1000000 in
set_option maxHeartbeats 4000000 in
theorem pe_tail (g N z2 l2 cp2 : Nat) (neg : Bool) (hN : z2 + l2 ≤ N) (hN2 : N ≤ 2097160) (v : Nat → Nat) (w : World) (HR : Hid (Row w g N v)) (HD : Hid (∀ k, z2 ≤ k → k < z2 + l2 → Dg (v k))) (c1 c2 c4 c5 c6 c7 c8 c9 c10 c11 c12 c13 c14 c15 c16 c17 c18 c19 c20 c21 c22 c23 c24 c25 c26 c27 c28 c29 c30 c31 c32 c33 c34 c35 c36 c37 c38 c39 c40 : Value) :
    Code.wp Try.prog peT (bodyPost Try.prog Try.f28 fun e w' => e = .returned (.int .i64 (PeVal v z2 l2 neg)) ∧ w' = w) ⟨#[.slice (some ⟨g, z2, none⟩) l2 cp2, c1, c2, .bool neg, c4, c5, c6, c7, c8, c9, c10, c11, c12, c13, c14, c15, c16, c17, c18, c19, c20, c21, c22, c23, c24, c25, c26, c27, c28, c29, c30, c31, c32, c33, c34, c35, c36, c37, c38, c39, c40], []⟩ w := by
  conv => arg 2; whnf
  go_wp2
  go_loopg [4, 25] l2 (fun gg s4 s25 wr => ∃ j x : Nat, s25 = .int .i64 j ∧ s4 = .int .i64 x ∧ x = clampE v z2 j ∧ j + gg = l2 ∧ wr = w)
  case atStart => exact ⟨0, 0, rfl, rfl, rfl, by omega, rfl⟩
  case round =>
    obtain ⟨j, x, rfl, rfl, hx, hjg, hwr⟩ := hrel
    subst hwr
    have HX : Hid (x = clampE v z2 j) := hx
    have hx1 : x ≤ 1073741824 := by rw [hx]; exact clampE_le _ _ _
    clear hx
    cases gk with
    | zero =>
      obtain rfl : j = l2 := by omega
      cases neg
      · go_wp2
        go_ret
        exact ⟨by rw [HX.out]; rfl, rfl⟩
      · go_wp2
        go_ret
        exact ⟨by rw [HX.out]; rfl, rfl⟩
    | succ gg =>
      have hcj := HR.out.cell (z2 + j) (by omega)
      have hd := HD.out (z2 + j) (by omega) (by omega)
      obtain ⟨c, hc⟩ : ∃ c, v (z2 + j) = c := ⟨_, rfl⟩
      rw [hc] at hcj hd
      have HM : Hid (min (x * 10 + (c - 48)) 1073741824 = clampE v z2 (j + 1)) := clamp_min HX.out hc
      have hsub := u8_sub c hd
      have hd9 : c - 48 ≤ 9 := by unfold Dg at hd; omega
      obtain ⟨dd, hdd⟩ : ∃ dd, c - 48 = dd := ⟨_, rfl⟩
      rw [hdd] at hsub hd9 HM
      clear hc hd hdd HX
      by_cases hm : x * 10 + dd ≤ 1073741824
      · have hm1 : (x : Int) * 10 + dd ≤ 1073741824 := by omega
        have HM2 : Hid (x * 10 + dd = clampE v z2 (j + 1)) := by rw [← HM.out]; exact (Nat.min_eq_left hm).symm
        clear hm HM
        go_wp2
        go_roundg gg
        case measure => omega
        case rel => exact ⟨j + 1, x * 10 + dd, by go_num, by go_num, HM2.out, by omega, rfl⟩
      · have hm1 : ¬ (x : Int) * 10 + dd ≤ 1073741824 := by omega
        have HM2 : Hid (1073741824 = clampE v z2 (j + 1)) := by rw [← HM.out]; exact (Nat.min_eq_right (by omega)).symm
        clear hm HM
        go_wp2
        go_roundg gg
        case measure => omega
        case rel => exact ⟨j + 1, 1073741824, by go_num, by go_num, HM2.out, by omega, rfl⟩

set_option maxRecDepth 1000000 in
set_option maxHeartbeats 4000000 in
theorem pe_any (g N z l cp z2 l2 : Nat) (neg : Bool) (hl : 0 < l) (hN : z + l ≤ N) (hN2 : N ≤ 2097160) (hcp : l ≤ cp) (v : Nat → Nat) (hh : PeHead v z z2 neg) (hl2 : z2 + l2 = z + l) (hl2p : 0 < l2) (hd : ∀ k, z2 ≤ k → k < z + l → Dg (v k)) (w : World) (hr : Row w g N v) :
    Calls Try.prog 28 #[.slice (some ⟨g, z, none⟩) l cp] w fun e w' => e = .returned (.int .i64 (PeVal v z2 l2 neg)) ∧ w' = w := by
  have HR : Hid (Row w g N v) := hr
  have HD : Hid (∀ k, z2 ≤ k → k < z + l → Dg (v k)) := hd
  have hcz := hr.cell z (by omega)
  clear hr hd
  go_enter Try.func28, Try.ntmps28
  rcases hh with ⟨h1, h2, rfl, rfl⟩ | ⟨h1, rfl, rfl⟩ | ⟨h1, rfl, rfl⟩
  · obtain ⟨x, hx⟩ : ∃ x, v z2 = x := ⟨_, rfl⟩
    rw [hx] at hcz h1 h2
    have e1 : ((x : Int) == 45) = false := by rw [beq_eq_false_iff_ne]; omega
    have e2 : ((x : Int) == 43) = false := by rw [beq_eq_false_iff_ne]; omega
    obtain rfl : l2 = l := by omega
    clear h1 h2 hx
    go_upto_if 20 with fail
    go_cut [0, 3] (fun s0 s3 w1 => ∃ cp2, s0 = .slice (some ⟨g, z2, none⟩) l2 cp2 ∧ s3 = .bool false ∧ w1 = w)
    case first =>
      go_wp2
      go_meet
      case rel => exact ⟨_, rfl, rfl, rfl⟩
    case rest =>
      obtain ⟨cp2, rfl, rfl, hwc⟩ := hcut
      subst hwc
      refine (by assumption : ∀ a w, Code.wp _ _ _ a w → _) _ _ ?_
      exact pe_tail g N z2 l2 cp2 false hN hN2 v _ HR (fun k h1 h2 => HD.out k h1 (by omega)) _ _ _ _ _ _ _ _ _ _ _ _ _ _ _ _ _ _ _ _ _ _ _ _ _ _ _ _ _ _ _ _ _ _ _ _ _ _ _
  · rw [h1] at hcz
    obtain rfl : l = l2 + 1 := by omega
    clear h1 hl2
    go_upto_if 20 with fail
    go_cut [0, 3] (fun s0 s3 w1 => ∃ cp2, s0 = .slice (some ⟨g, (z + 1), none⟩) l2 cp2 ∧ s3 = .bool false ∧ w1 = w)
    case first =>
      go_wp2
      go_meet
      case rel => exact ⟨_, rfl, rfl, rfl⟩
    case rest =>
      obtain ⟨cp2, rfl, rfl, hwc⟩ := hcut
      subst hwc
      refine (by assumption : ∀ a w, Code.wp _ _ _ a w → _) _ _ ?_
      exact pe_tail g N (z + 1) l2 cp2 false (by omega) (by omega) v _ HR (fun k h1 h2 => HD.out k h1 (by omega)) _ _ _ _ _ _ _ _ _ _ _ _ _ _ _ _ _ _ _ _ _ _ _ _ _ _ _ _ _ _ _ _ _ _ _ _ _ _ _
  · rw [h1] at hcz
    obtain rfl : l = l2 + 1 := by omega
    clear h1 hl2
    go_upto_if 20 with fail
    go_cut [0, 3] (fun s0 s3 w1 => ∃ cp2, s0 = .slice (some ⟨g, (z + 1), none⟩) l2 cp2 ∧ s3 = .bool true ∧ w1 = w)
    case first =>
      go_wp2
      go_meet
      case rel => exact ⟨_, rfl, rfl, rfl⟩
    case rest =>
      obtain ⟨cp2, rfl, rfl, hwc⟩ := hcut
      subst hwc
      refine (by assumption : ∀ a w, Code.wp _ _ _ a w → _) _ _ ?_
      exact pe_tail g N (z + 1) l2 cp2 true (by omega) (by omega) v _ HR (fun k h1 h2 => HD.out k h1 (by omega)) _ _ _ _ _ _ _ _ _ _ _ _ _ _ _ _ _ _ _ _ _ _ _ _ _ _ _ _ _ _ _ _ _ _ _ _ _ _ _

theorem first_yes (c : Nat) (h : c = 43 ∨ c = 45 ∨ c = 46 ∨ c = 101 ∨ c = 69) : 0 ≤ firstIdx ⟨#[43, 45, 46, 101, 69]⟩ (c : Int).toNat.toUInt8 := by
  rcases h with rfl | rfl | rfl | rfl | rfl <;> decide
theorem first_no (c : Nat) (hc : c < 256) (h : ¬ (c = 43 ∨ c = 45 ∨ c = 46 ∨ c = 101 ∨ c = 69)) : firstIdx ⟨#[43, 45, 46, 101, 69]⟩ (c : Int).toNat.toUInt8 = -1 := by
  apply firstIdx_none
  intro b hb e
  have e2 : b.toNat = c := by
    rw [e]
    simp
    omega
  apply h
  simp at hb
  rcases hb with rfl | rfl | rfl | rfl | rfl
  · exact Or.inl e2.symm
  · exact Or.inr (Or.inl e2.symm)
  · exact Or.inr (Or.inr (Or.inl e2.symm))
  · exact Or.inr (Or.inr (Or.inr (Or.inl e2.symm)))
  · exact Or.inr (Or.inr (Or.inr (Or.inr e2.symm)))

set_option maxRecDepth 1000000 in
set_option maxHeartbeats 1000000 in
theorem ib39 (s : ByteArray) (c : Int) (w : World) :
    Calls Try.prog 39 #[.string s, .int .u8 c] w fun e w' => e = .returned (.int .i64 (firstIdx s c.toNat.toUInt8)) ∧ w' = w := by
  go_enter Try.func39, Try.ntmps39
  go_wp2
  rw [run_callFunc_extern Try.func40 (by kernel_rfl) (by kernel_rfl) (by kernel_rfl) (e := Extern.BytealgIndexByte.indexByte) (by kernel_rfl), run_indexByte_string]
  simp only [Result.andThen]
  rw [Oper.upon_value]
  go_wp2
  go_ret
  exact ⟨rfl, rfl⟩
set_option maxRecDepth 1000000 in
set_option maxHeartbeats 1000000 in
theorem ib37 (s : ByteArray) (c : Int) (w : World) :
    Calls Try.prog 37 #[.string s, .int .u8 c] w fun e w' => e = .returned (.int .i64 (firstIdx s c.toNat.toUInt8)) ∧ w' = w := by
  go_enter Try.func37, Try.ntmps37
  go_wp2_with (go_at_call 39; refine (ib39 _ _ _).mono ?_; rintro e w' ⟨rfl, rfl⟩)
  go_ret
  exact ⟨rfl, rfl⟩
set_option maxRecDepth 1000000 in
set_option maxHeartbeats 1000000 in
theorem bi34 (b o n c : Nat) (xs : List Int) (cv : Int) (w : World) (hx : xs.length = n) (hc : ∀ i, i < n → w.cell? ⟨b, o + i, none⟩ = some (.int .u8 (xs.getD i 0))) :
    Calls Try.prog 34 #[.slice (some ⟨b, o, none⟩) n c, .int .u8 cv] w fun e w' => e = .returned (.int .i64 (Lib.indexByte (Lib.bytesOf xs) cv.toNat.toUInt8)) ∧ w' = w := by
  go_enter Try.func34, Try.ntmps34
  go_wp2
  rw [run_callFunc_extern Try.func38 (by kernel_rfl) (by kernel_rfl) (by kernel_rfl) (e := Extern.BytealgIndexByte.indexByte) (by kernel_rfl), Lib.run_indexByteSlice w b o n c xs hx hc cv]
  simp only [Result.andThen]
  rw [Oper.upon_value]
  go_wp2
  go_ret
  exact ⟨rfl, rfl⟩

/-- The bytes m .. m + l. -/
def lst (v : Nat → Nat) : Nat → Nat → List Int
  | _, 0 => []
  | m, l + 1 => (v m : Int) :: lst v (m + 1) l
theorem lst_len (v : Nat → Nat) : ∀ l m, (lst v m l).length = l
  | 0, _ => rfl
  | l + 1, m => by simp [lst, lst_len v l (m + 1)]
theorem lst_get (v : Nat → Nat) : ∀ l m i, i < l → (lst v m l).getD i 0 = (v (m + i) : Int)
  | 0, _, _, h => by omega
  | l + 1, m, 0, _ => by simp [lst]
  | l + 1, m, i + 1, h => by
    have := lst_get v l (m + 1) i (by omega)
    simp only [lst, List.getD_cons_succ]
    rw [this, show m + 1 + i = m + (i + 1) by omega]
/-- What bytes.IndexByte finds: the point. -/
def Dot (v : Nat → Nat) (m l : Nat) (r : Int) : Prop := (r = -1 ∧ ∀ k, k < l → v (m + k) ≠ 46) ∨ ∃ d : Nat, d < l ∧ r = d ∧ v (m + d) = 46 ∧ ∀ k, k < d → v (m + k) ≠ 46
theorem u8_46 {c : Nat} (h : c < 256) : (UInt8.ofNat (c : Int).toNat == (46 : Int).toNat.toUInt8) = decide (c = 46) := by
  have e : (c : Int).toNat = c := by omega
  rw [e]
  by_cases hc : c = 46
  · subst hc; decide
  · rw [decide_eq_false hc, beq_eq_false_iff_ne]
    intro h2
    have h3 := congrArg UInt8.toNat h2
    have h4 : (46 : Int).toNat.toUInt8.toNat = 46 := by decide
    rw [h4, UInt8.toNat_ofNat'] at h3
    omega
theorem dot_any (v : Nat → Nat) (hv : ∀ i, v i < 256) : ∀ l m, Dot v m l (Lib.indexByte (Lib.bytesOf (lst v m l)) (46 : Int).toNat.toUInt8)
  | 0, m => Or.inl ⟨rfl, fun k h => by omega⟩
  | l + 1, m => by
    have ih := dot_any v hv l (m + 1)
    have e : Lib.bytesOf (lst v m (l + 1)) = UInt8.ofNat (v m : Int).toNat :: Lib.bytesOf (lst v (m + 1) l) := rfl
    rw [e, Lib.indexByte, u8_46 (hv m)]
    by_cases h : v m = 46
    · rw [if_pos (by simp [h])]
      exact Or.inr ⟨0, by omega, rfl, h, fun k hk => by omega⟩
    · rw [if_neg (by simp [h])]
      rcases ih with ⟨h1, h2⟩ | ⟨d, h1, h2, h3, h4⟩
      · rw [h1]
        refine Or.inl ⟨by decide, fun k hk => ?_⟩
        rcases k with _ | k
        · exact h
        · rw [show m + (k + 1) = m + 1 + k by omega]; exact h2 k (by omega)
      · rw [h2, if_neg (by simp)]
        refine Or.inr ⟨d + 1, by omega, by omega, by rw [show m + (d + 1) = m + 1 + d by omega]; exact h3, fun k hk => ?_⟩
        rcases k with _ | k
        · exact h
        · rw [show m + (k + 1) = m + 1 + k by omega]; exact h4 k (by omega)
/-- bytes.IndexByte at the point, over a part of a row. -/
theorem bi_dot (g N m l cp : Nat) (hN : m + l ≤ N) (v : Nat → Nat) (w : World) (hr : Row w g N v) :
    Calls Try.prog 34 #[.slice (some ⟨g, m, none⟩) l cp, .int .u8 46] w fun e w' => (∃ r, e = .returned (.int .i64 r) ∧ Dot v m l r) ∧ w' = w := by
  refine (bi34 g m l cp (lst v m l) 46 w (lst_len v l m) (fun i hi => ?_)).mono ?_
  · rw [lst_get v l m i hi]; exact hr.cell (m + i) (by omega)
  · rintro e w' ⟨rfl, rfl⟩
    exact ⟨⟨_, rfl, dot_any v hr.small l m⟩, rfl⟩
end Go.Proofs.Qxb6602476a
