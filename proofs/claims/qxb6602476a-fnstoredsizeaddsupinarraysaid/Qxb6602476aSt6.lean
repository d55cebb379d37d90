/-
  WALKS: zzClone, the bounds on lengths, ZZstoredSize.
-/
import Derived.Test.Qxb6602476aSt5
import Derived.Test.Qxb6602476aScan7
namespace Go.Proofs.Qxb6602476a
open Go.RowKit Plain

/-- What zzClone hands back. -/
def CloneBack (w : World) (a : Option Addr) (n : Nat) (v : Nat → Nat) (e : Ending) (w' : World) : Prop :=
  (a = none ∧ e = .returned (.slice none 0 0) ∧ w' = w) ∨
  (∃ g, e = .returned (.slice (some ⟨g, 0, none⟩) n n) ∧ w.heap.size ≤ g ∧ g < w'.heap.size ∧ Row w' g n v ∧ Below w.heap.size w w')

theorem row_of_own {w wr : World} {g n : Nat} {xs : List Value} {v : Nat → Nat} (hv : ∀ i, v i < 256) (h : wr.ownsRow w.heap.size 5 1 (.slice (some ⟨g, 0, none⟩) n n) n xs) (hx : ∀ k, k < n → xs[k]? = some (.int .u8 (v k))) : Row wr g n v :=
  ⟨hv, fun k hk => by rw [h.cellAt k (by omega)]; exact hx k hk⟩
theorem own_lt {w wr : World} {g n : Nat} {xs : List Value} (h : wr.ownsRow w.heap.size 5 1 (.slice (some ⟨g, 0, none⟩) n n) n xs) : w.heap.size ≤ g ∧ g < wr.heap.size := h.lt g rfl

theorem nil_nil (W : World) : (binOp .eql 22 (.slice none 0 0) (.slice none 0 0)).run Try.prog W = .ok (.bool true) W := by kernel_rfl
theorem some_nil (W : World) (x : Addr) (n c : Nat) : (binOp .eql 22 (.slice (some x) n c) (.slice none 0 0)).run Try.prog W = .ok (.bool false) W := by kernel_rfl

set_option maxRecDepth 1000000 in
set_option maxHeartbeats 4000000 in
theorem zzClone_any (a : Option Addr) (n cap : Nat) (hn : n ≤ 2097152) (v : Nat → Nat) (w : World) (hb : Bts w a n v) (hnil : a = none → n = 0 ∧ cap = 0) :
    Calls Try.prog 13 #[.slice a n cap] w fun e w' => CloneBack w a n v e w' := by
  cases a with
  | none =>
    obtain ⟨rfl, rfl⟩ := hnil rfl
    clear hb hnil
    have hnn := nil_nil
    go_enter Try.func13, Try.ntmps13
    go_wp2
    go_ret
    exact Or.inl ⟨rfl, rfl, rfl⟩
  | some x =>
    obtain ⟨b, off, mm⟩ := x
    have HB : Hid (Bts w (some ⟨b, off, mm⟩) n v) := hb
    obtain ⟨i0, hi0, hz0, hz1, hz2⟩ := info_parts info5
    clear hb hnil
    have hsn := fun W => some_nil W ⟨b, off, mm⟩ n cap
    go_enter Try.func13, Try.ntmps13
    go_wp2_with (at_make; refine wpList_make_full _ rfl _ _ 22 rfl w.heap.size 5 i0 _ 1 Try.underlying22 hi0 hz0 hz1 _ _ _ _ n rfl rfl rfl rfl ?b2 ?b3 ?b4 ?_)
    case b2 => rw [hz2]; omega
    case b3 => unfold maxLen; omega
    case b4 => exact Nat.le_refl _
    intro w1 hown hgrow
    have HO : Hid (w1.ownsRow w.heap.size 5 1 (.slice (some ⟨w.heap.size, 0, none⟩) n n) n _) := hown
    have HL : Hid (Below w.heap.size w w1) := (Below.refl _ _).grown hgrow (Nat.le_refl _) (fun k hk => by cases hk)
    clear hown hgrow hi0 hz0 hz1 hz2
    go_wp2
    go_loopg [4] n (fun gg s4 wr => ∃ (j : Nat) (xs : List Value), s4 = .int .i64 j ∧ j + gg = n ∧ wr.ownsRow w.heap.size 5 1 (.slice (some ⟨w.heap.size, 0, none⟩) n n) n xs ∧ (∀ k, k < j → xs[k]? = some (.int .u8 (v k))) ∧ Below w.heap.size w wr)
    case atStart => exact ⟨0, _, rfl, by omega, HO.out, fun k hk => by omega, HL.out⟩
    case round =>
      obtain ⟨j, xs, rfl, hjg, hown, hxs, hbel⟩ := hrel
      have HO2 : Hid (wr.ownsRow w.heap.size 5 1 (.slice (some ⟨w.heap.size, 0, none⟩) n n) n xs) := hown
      have HX : Hid (∀ k, k < j → xs[k]? = some (.int .u8 (v k))) := hxs
      have HL2 : Hid (Below w.heap.size w wr) := hbel
      clear hown hxs hbel HO HL
      cases gk with
      | zero =>
        obtain rfl : j = n := by omega
        go_wp2
        go_ret
        exact Or.inr ⟨_, rfl, Nat.le_refl _, (own_lt HO2.out).2, row_of_own HB.out.small HO2.out HX.out, HL2.out⟩
      | succ gg =>
        have hj : j < n := by omega
        obtain ⟨b', off', mm', he, hc⟩ := (HB.out.below HL2.out).at' (by omega)
        cases he
        have hcj := hc j hj
        obtain ⟨c, hcv⟩ : ∃ c, v j = c := ⟨_, rfl⟩
        rw [hcv] at hcj
        have Hc : Hid (v j = c) := hcv
        have hxl : xs.length = n := by have := HO2.out.1; omega
        obtain ⟨y, hy⟩ : ∃ y, xs[j]? = some y := ⟨_, List.getElem?_eq_getElem (by omega)⟩
        have hcell := (HO2.out.cellAt j (by omega)).trans hy
        have hfz := HO2.out.frozenAt j
        have st := HO2.out.stored j (.int .u8 c)
        have HO3 : Hid ((wr.setCell ⟨w.heap.size, j, none⟩ (.int .u8 c)).ownsRow w.heap.size 5 1 (.slice (some ⟨w.heap.size, 0, none⟩) n n) n (xs.set j (.int .u8 c))) := st.1
        have HL3 : Hid (Below w.heap.size w (wr.setCell ⟨w.heap.size, j, none⟩ (.int .u8 c))) := HL2.out.setCell (Nat.le_refl _) _
        have HX3 : Hid (∀ k, k < j + 1 → (xs.set j (.int .u8 c))[k]? = some (.int .u8 (v k))) := fun k hk => by
          rw [List.getElem?_set]
          by_cases hkj : j = k
          · subst hkj; rw [if_pos rfl, if_pos (by omega), Hc.out]
          · rw [if_neg hkj]; exact HX.out k (by omega)
        clear hc hcv st hy
        go_wp2
        go_roundg gg
        case measure => omega
        case rel => exact ⟨j + 1, _, by go_num, by omega, HO3.out, HX3.out, HL3.out⟩

set_option maxRecDepth 100000 in
set_option maxHeartbeats 1000000 in
theorem bytes24 (a : Option Addr) (n cap : Nat) (hn : n ≤ 9223372036854775807) (w : World) :
    Calls Try.prog 24 #[.slice a n cap] w fun e w' => e = .returned (.bool (decide (n ≤ 1048576))) ∧ w' = w := by
  by_cases h : n ≤ 1048576
  · rw [decide_eq_true h]
    have h1 : ¬ (1048576 : Int) < n := by omega
    go_enter Try.func24, Try.ntmps24
    go_wp2
    go_ret
    exact ⟨rfl, rfl⟩
  · rw [decide_eq_false h]
    have h1 : (1048576 : Int) < n := by omega
    go_enter Try.func24, Try.ntmps24
    go_wp2
    go_ret
    exact ⟨rfl, rfl⟩

set_option maxRecDepth 100000 in
set_option maxHeartbeats 1000000 in
theorem zss_any (g N cp : Nat) (hN : N ≤ 2097152) (hcp : N ≤ cp) (v : Nat → Nat) (S : Int) (ht : Tok v N 0 S) (w : World) (hg : g < w.heap.size) (hr : Row w g N v) :
    Calls Try.prog 26 #[.slice (some ⟨g, 0, none⟩) N cp] w fun en w' => en = .returned (.int .i64 S) ∧ ∃ k, w' = w.drewN k := by
  have HP : Hid (Calls Try.prog 33 #[.slice (some ⟨g, 0, none⟩) N cp] w fun en w' => en = .returned (.int .i64 S) ∧ ∃ k, w' = w.drewN k) := ss_any g N cp hN hcp v S ht w hg hr
  clear ht hr hg
  go_enter Try.func26, Try.ntmps26
  go_wp2_with (go_at_call 33; refine HP.out.mono ?_; rintro en w' ⟨rfl, hk⟩)
  go_ret
  exact ⟨rfl, hk⟩
set_option maxRecDepth 100000 in
set_option maxHeartbeats 1000000 in
theorem zss_nil (w : World) : Calls Try.prog 26 #[.slice none 0 0] w fun en w' => en = .returned (.int .i64 0) ∧ ∃ k, w' = w.drewN k := by
  go_enter Try.func26, Try.ntmps26
  go_wp2_with (go_at_call 33; refine (ss_nil _).mono ?_; rintro en w' ⟨rfl, hk⟩)
  go_ret
  exact ⟨rfl, hk⟩

end Go.Proofs.Qxb6602476a
