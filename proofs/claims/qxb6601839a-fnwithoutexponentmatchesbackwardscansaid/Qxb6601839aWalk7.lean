/-
  WALKS: strings.IndexAny at "eE", s of at most eight bytes, whatever they are.
-/
import Derived.Test.Qxb6601839aWalk6
import Derived.Lib.OthersKept
namespace Go.Proofs.Qxb6601839a
open Go.RowKit Plain

theorem get_bang (s : ByteArray) (k : Nat) (h : k < s.size) : s.get! k = s[k]'h := by
  simp [ByteArray.get!, getElem!_pos, h]
  rfl

/-- A rune that begins with a byte beyond ASCII: its bytes are all beyond ASCII. -/
theorem decode_wide (s : ByteArray) (i : Nat) (h : i < s.size) (ha : 128 ≤ bt s i) :
    128 ≤ (Utf8.decode s i).1 ∧ 1 ≤ (Utf8.decode s i).2 ∧ i + (Utf8.decode s i).2 ≤ s.size ∧ (∀ j, i ≤ j → j < i + (Utf8.decode s i).2 → 128 ≤ bt s j) ∧ Utf8.valid (Utf8.decode s i).1 = true := by
  have hb : ∀ k, i + k < s.size → (s.get! (i + k)).toNat = bt s (i + k) := fun k hk => by rw [get_bang s _ hk, bt_eq s _ hk]
  have hn : ¬ (s.get! (i + 0)).toNat < 128 := by rw [hb 0 (by omega)]; simpa using ha
  have hne : Utf8.valid 65533 = true := by decide
  simp only [Utf8.decode, hn, if_false]
  have one : 128 ≤ Utf8.runeError ∧ 1 ≤ 1 ∧ i + 1 ≤ s.size ∧ (∀ j, i ≤ j → j < i + 1 → 128 ≤ bt s j) ∧ Utf8.valid (Utf8.runeError : Int) = true :=
    ⟨by decide, by omega, by omega, fun j a b => by obtain rfl : j = i := by omega
                                                    exact ha, by decide⟩
  split
  · rename_i h1
    simp only [Bool.and_eq_true, beq_iff_eq, decide_eq_true_eq] at h1
    obtain ⟨h1, h2, h3⟩ := h1
    split
    · rename_i hc
      refine ⟨hc, by omega, by show i + 2 ≤ s.size; omega, fun j a b => ?_, ?_⟩
      · have b' : j < i + 2 := b
        rcases (show j = i ∨ j = i + 1 by omega) with rfl | rfl
        · exact ha
        · rw [hb 1 h2] at h3; omega
      · simp only [Utf8.valid]; simp; left; have := (s.get! (i + 1)).toNat_lt; omega
    · exact one
  · split
    · rename_i h1
      simp only [Bool.and_eq_true, beq_iff_eq, decide_eq_true_eq] at h1
      obtain ⟨⟨h1, h2, h3⟩, h4, h5⟩ := h1
      split
      · rename_i hc
        simp only [Bool.and_eq_true, decide_eq_true_eq] at hc
        refine ⟨by show 128 ≤ _; omega, by omega, by show i + 3 ≤ s.size; omega, fun j a b => ?_, hc.2⟩
        have b' : j < i + 3 := b
        rw [hb 1 h2] at h3
        rw [hb 2 h4] at h5
        rcases (show j = i ∨ j = i + 1 ∨ j = i + 2 by omega) with rfl | rfl | rfl
        · exact ha
        · omega
        · omega
      · exact one
    · split
      · rename_i h1
        simp only [Bool.and_eq_true, beq_iff_eq, decide_eq_true_eq] at h1
        obtain ⟨⟨⟨h1, h2, h3⟩, h4, h5⟩, h6, h7⟩ := h1
        split
        · rename_i hc
          simp only [Bool.and_eq_true, decide_eq_true_eq] at hc
          refine ⟨by show 128 ≤ _; omega, by omega, by show i + 4 ≤ s.size; omega, fun j a b => ?_, hc.2⟩
          have b' : j < i + 4 := b
          rw [hb 1 h2] at h3
          rw [hb 2 h4] at h5
          rw [hb 3 h6] at h7
          rcases (show j = i ∨ j = i + 1 ∨ j = i + 2 ∨ j = i + 3 by omega) with rfl | rfl | rfl | rfl
          · exact ha
          · omega
          · omega
          · omega
        · exact one
      · exact one

set_option maxRecDepth 1000000 in
set_option maxHeartbeats 1000000 in
theorem use26 (n : Int) (w : World) :
    Calls Try.prog 26 #[.int .i64 n] w fun e w' => e = .returned (.bool (decide (8 < n))) ∧ w' = w := by
  go_enter Try.func26, Try.ntmps26
  go_wp2
  go_ret
  exact ⟨rfl, rfl⟩

theorem ret_first {s : ByteArray} {n m : Int} (h : First s n) (g : First s m) : Ending.returned (.int .i64 n) = .returned (.int .i64 m) := by rw [h.uniq g]

theorem ir_yes2 (r : Nat) (h : E r) (w : World) :
    Calls Try.prog 25 #[.string ⟨#[101, 69]⟩, .int .i32 r] w fun e w' => ∃ v : Int, 0 ≤ v ∧ e = .returned (.int .i64 v) ∧ w' = w :=
  (ir_yes r h w).mono fun e w' ⟨h1, h2⟩ => by
    rcases h1 with h1 | h1
    · exact ⟨0, by omega, h1, h2⟩
    · exact ⟨1, by omega, h1, h2⟩

theorem ir_wide (r : Nat) (h1 : (128 : Int) ≤ r) (hv : Hid (Utf8.valid r = true)) (w : World) :
    Calls Try.prog 25 #[.string ⟨#[101, 69]⟩, .int .i32 r] w fun e w' => e = .returned (.int .i64 (-1)) ∧ Below w.heap.size w w' ∧ w.heap.size ≤ w'.heap.size := by
  by_cases h : r = 65533
  · subst h
    refine (ir_err w).mono fun e w' ⟨h1, p, h2⟩ => ⟨h1, ?_⟩
    subst h2
    have hb : Below w.heap.size w (w.iter ⟨#[101, 69]⟩ p) := (Below.refl _ _).alloc (Nat.le_refl _) _
    exact ⟨hb, hb.size⟩
  · refine (ir_high r h1 hv h w).mono fun e w' ⟨h1, m, h2⟩ => ⟨h1, ?_⟩
    subst h2
    have hb : Below w.heap.size w (w.drewN m) := below_drewN (Below.refl _ _) m
    exact ⟨hb, hb.size⟩

/-- What the range over s knows at a round's head. -/
def Rng (s : ByteArray) (w wx : World) (i : Nat) : Prop := i ≤ s.size ∧ wx.heap[w.heap.size]? = some (.stringIter s i) ∧ Below w.heap.size w wx ∧ ∀ j, j < i → ¬ E (bt s j)

set_option maxRecDepth 1000000 in
set_option maxHeartbeats 4000000 in
theorem ia_short (s : ByteArray) (n : Int) (hn : First s n) (h8 : s.size ≤ 8) (w : World) :
    Calls Try.prog 23 #[.string s, .string ⟨#[101, 69]⟩] w fun e w' => e = .returned (.int .i64 n) ∧ Below w.heap.size w w' := by
  have HN : Hid (First s n) := hn
  clear hn
  have h8z : decide ((8 : Int) < (s.size : Int)) = false := decide_eq_false (by omega)
  go_enter Try.func23, Try.ntmps23
  go_wp2_with (go_at_call 26; refine (use26 _ _).mono ?_; rintro e w' ⟨rfl, rfl⟩; rw [h8z])
  go_loopg [9, 10] s.size (fun g _ _ wx => ∃ i : Nat, i + g = s.size ∧ Rng s w' wx i)
  case atStart => exact ⟨0, by omega, by omega, World.iter_heap _ _ _, (Below.refl _ _).alloc (Nat.le_refl _) _, fun j h => absurd h (by omega)⟩
  case round =>
    obtain ⟨i, hig, hr⟩ := hrel
    have HR : Hid (Rng s w' wr i) := hr
    clear hr
    have hit := HR.out.2.1
    by_cases hi : i < s.size
    · have hnx := fun ty => Lib.run_next_any_at (P := Try.prog) wr w'.heap.size s i ty hit hi
      by_cases ha : bt s i < 128
      · have hd : Utf8.decode s i = (bt s i, 1) := by rw [bt_eq s i hi]; exact decode_ascii s i hi (by rw [← bt_eq s i hi]; exact ha)
        rw [hd] at hnx
        clear hd
        obtain ⟨x, hx⟩ : ∃ x, bt s i = x := ⟨_, rfl⟩
        rw [hx] at hnx ha
        have HX : Hid (bt s i = x) := hx
        clear hx
        by_cases he : E x
        · have HE : Hid (E x) := he
          clear he
          go_wp2_with (go_at_call 25; refine (ir_yes2 _ HE.out _).mono ?_; rintro e w' ⟨v, hv, rfl, rfl⟩)
          go_ret
          refine ⟨ret_first (Or.inr ⟨i, rfl, hi, by rw [HX.out]; exact HE.out, HR.out.2.2.2⟩) HN.out, ?_⟩
          exact Lib.below_iterAt HR.out.2.2.1 (Nat.le_refl _) _ _
        · have HE : Hid (¬ E x) := he
          clear he
          go_wp2_with (go_at_call 25; refine (ir_ascii _ HE.out (by omega) _).mono ?_; rintro e w' ⟨rfl, rfl⟩)
          go_roundg (s.size - (i + 1))
          case measure => omega
          case rel =>
            refine ⟨i + 1, by omega, by omega, Lib.iterAt_heap _ _ _ _ _ HR.out.2.1, Lib.below_iterAt HR.out.2.2.1 (Nat.le_refl _) _ _, fun j hj => ?_⟩
            by_cases e : j = i
            · subst e; rw [HX.out]; exact HE.out
            · exact HR.out.2.2.2 j (by omega)
      · obtain ⟨d1, d2, d3, d4, d5⟩ := decode_wide s i hi (by omega)
        obtain ⟨r, hr⟩ : ∃ r, (Utf8.decode s i).1 = r := ⟨_, rfl⟩
        obtain ⟨k, hk⟩ : ∃ k, (Utf8.decode s i).2 = k := ⟨_, rfl⟩
        rw [hr] at d1 d5 hnx
        rw [hk] at d2 d3 d4 hnx
        have HV : Hid (Utf8.valid r = true) := d5
        have HD : Hid (∀ j, i ≤ j → j < i + k → 128 ≤ bt s j) := d4
        have h128 : (128 : Int) ≤ (r : Int) := by omega
        clear hr hk d4 d5 ha
        go_wp2_with (go_at_call 25; refine (ir_wide _ h128 HV _).mono ?_; rintro e w1 ⟨rfl, hb1, hz1⟩)
        go_roundg (s.size - (i + k))
        case measure => omega
        case rel =>
          have hb0 : Below w'.heap.size w' (wr.iterAt w'.heap.size s (i + k)) := Lib.below_iterAt HR.out.2.2.1 (Nat.le_refl _) _ _
          have hlt : w'.heap.size < (wr.iterAt w'.heap.size s (i + k)).heap.size := by
            rw [Lib.iterAt_size]; exact (Array.getElem?_eq_some_iff.1 HR.out.2.1).1
          refine ⟨i + k, by omega, by omega, ?_, hb0.trans (hb1.mono (by omega)), fun j hj => ?_⟩
          · rw [hb1.block w'.heap.size (by omega)]
            exact Lib.iterAt_heap _ _ _ _ _ HR.out.2.1
          · by_cases e : j < i
            · exact HR.out.2.2.2 j e
            · have := HD.out j (by omega) hj
              unfold E; omega
    · have hnx := fun ty => Lib.run_next_end_at (P := Try.prog) wr w'.heap.size s i ty hit hi
      go_wp2
      go_ret
      exact ⟨ret_first (Or.inl ⟨rfl, fun j hj => HR.out.2.2.2 j (by omega)⟩) HN.out, HR.out.2.2.1⟩

end Go.Proofs.Qxb6601839a
