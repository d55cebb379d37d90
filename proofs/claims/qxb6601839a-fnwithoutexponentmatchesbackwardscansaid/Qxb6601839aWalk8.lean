/-
  WALKS: strings.IndexAny at "eE" and any s of at most 1<<20 bytes; withoutExponent.
-/
import Derived.Test.Qxb6601839aWalk7
import Derived.Test.Qxb6601839aShelf
namespace Go.Proofs.Qxb6601839a
open Go.RowKit Plain

theorem bt_some {s : ByteArray} {j : Nat} {b : UInt8} (h : s.data.toList[j]? = some b) : bt s j = b.toNat := by unfold bt; rw [h]; rfl
theorem at_some (s : ByteArray) (j : Nat) (h : j < s.size) : ∃ b, s.data.toList[j]? = some b :=
  ⟨_, List.getElem?_eq_getElem (by rw [← size_len]; exact h)⟩

theorem in_eE (b : UInt8) : ([101, 69] : List UInt8).contains b = true ↔ E b.toNat := by
  rw [List.contains_iff_mem]
  constructor
  · intro h
    simp at h
    rcases h with rfl | rfl
    · exact Or.inl rfl
    · exact Or.inr rfl
  · intro h
    rcases h with h | h
    · have : b = 101 := UInt8.toNat_inj.1 h
      simp [this]
    · have : b = 69 := UInt8.toNat_inj.1 h
      simp [this]

theorem first_lib (s : ByteArray) : First s (Lib.indexAny s.data.toList [101, 69]) := by
  rcases Classical.em (∃ i, i < s.size ∧ E (bt s i) ∧ ∀ j, j < i → ¬ E (bt s j)) with ⟨i, hi, he, hno⟩ | hn
  · obtain ⟨b, hb⟩ := at_some s i hi
    have : Lib.indexAny s.data.toList [101, 69] = i := by
      refine Lib.indexAny_hit (fun j c hj hc => ?_) hb ?_
      · rw [Bool.eq_false_iff]; intro h
        exact hno j hj (by rw [bt_some hc]; exact (in_eE c).1 h)
      · rw [in_eE, ← bt_some hb]; exact he
    exact Or.inr ⟨i, this, hi, he, hno⟩
  · have hall : ∀ j, j < s.size → ¬ E (bt s j) := by
      intro j
      induction j using Nat.strongRecOn with
      | ind j ih => exact fun hj he => hn ⟨j, hj, he, fun k hk => ih k hk (by omega)⟩
    refine Or.inl ⟨?_, hall⟩
    refine Lib.indexAny_none fun j c hj hc => ?_
    rw [Bool.eq_false_iff]; intro h
    exact hall j (by rw [size_len]; exact hj) (by rw [bt_some hc]; exact (in_eE c).1 h)

theorem ia_any (s : ByteArray) (n : Int) (hn : First s n) (hs : s.size ≤ 1048576) (w : World) :
    Calls Try.prog 23 #[.string s, .string ⟨#[101, 69]⟩] w fun e w' => e = .returned (.int .i64 n) ∧ Below w.heap.size w w' := by
  by_cases h8 : s.size ≤ 8
  · exact ia_short s n hn h8 w
  · refine (Try.strings_IndexAny_long (fun w => by kernel_rfl) s ⟨#[101, 69]⟩ w (by decide) (by omega) (by omega) (by decide) ?_).mono fun e w' ⟨h1, h2⟩ => ⟨?_, ?_⟩
    · intro j b hb
      match j, hb with
      | 0, hb => simp at hb; subst hb; decide
      | 1, hb => simp at hb; subst hb; decide
      | j + 2, hb => simp at hb
    · rw [h1]; exact ret_first (first_lib s) hn
    · rw [h2]
      exact ((Below.refl _ _).alloc (Nat.le_refl _) _).alloc (by simp) _

set_option maxRecDepth 1000000 in
set_option maxHeartbeats 2000000 in
theorem we_none (s : ByteArray) (hs : s.size ≤ 1048576) (hno : ∀ j, j < s.size → ¬ E (bt s j)) (w : World) :
    Calls Try.prog 21 #[.string s] w fun e w' => e = .returned (.tuple #[.string s, .bool false]) ∧ Below w.heap.size w w' := by
  have HN : Hid (First s (-1)) := Or.inl ⟨rfl, hno⟩
  clear hno
  go_enter Try.func21, Try.ntmps21
  go_wp2_with (go_at_call 23; refine (ia_any _ _ HN.out hs _).mono ?_; rintro e w' ⟨rfl, hb⟩)
  go_ret2
  exact ⟨rfl, by assumption⟩

theorem size_tail (s : ByteArray) (a : Nat) : (s.extract a s.size).size = s.size - a := by rw [size_extract]; omega
theorem bt_tail (s : ByteArray) (a k : Nat) (h : a + k < s.size) : bt (s.extract a s.size) k = bt s (a + k) := bt_extract s a s.size k (Nat.le_refl _) h
theorem digs_tail (s : ByteArray) (a : Nat) : Digs (s.extract a s.size) 0 ↔ Digs s a := by
  unfold Digs
  rw [size_tail]
  constructor
  · rintro ⟨h1, h2⟩
    refine ⟨by omega, fun m hm hs => ?_⟩
    have := h2 (m - a) (by omega) (by omega)
    rw [bt_tail s a _ (by omega), show a + (m - a) = m by omega] at this
    exact this
  · rintro ⟨h1, h2⟩
    refine ⟨by omega, fun m _ hm => ?_⟩
    rw [bt_tail s a m (by omega)]
    exact h2 _ (by omega) (by omega)
theorem digs_tail2 (s : ByteArray) (a : Nat) (h : a < s.size) : Digs ((s.extract a s.size).extract 1 (s.extract a s.size).size) 0 ↔ Digs s (a + 1) := by
  rw [digs_tail]
  unfold Digs
  rw [size_tail]
  constructor
  · rintro ⟨h1, h2⟩
    refine ⟨by omega, fun m hm hs => ?_⟩
    have := h2 (m - a) (by omega) (by omega)
    rw [bt_tail s a _ (by omega), show a + (m - a) = m by omega] at this
    exact this
  · rintro ⟨h1, h2⟩
    refine ⟨by omega, fun m h3 hm => ?_⟩
    rw [bt_tail s a m (by omega)]
    exact h2 _ (by omega) (by omega)

set_option maxRecDepth 1000000 in
set_option maxHeartbeats 2000000 in
theorem we_mark (s r : ByteArray) (b : Bool) (hc : Cut s r b) (hs : s.size ≤ 1048576) (i : Nat) (hi : i < s.size) (he : E (bt s i)) (hno : ∀ j, j < i → ¬ E (bt s j)) (w : World) :
    Calls Try.prog 21 #[.string s] w fun e w' => e = .returned (.tuple #[.string r, .bool b]) ∧ Below w.heap.size w w' := by
  have HN : Hid (First s i) := Or.inr ⟨i, rfl, hi, he, hno⟩
  have HC : Hid (Cut s r b) := hc
  have HE : Hid (E (bt s i)) := he
  have HO : Hid (∀ j, j < i → ¬ E (bt s j)) := hno
  clear hc he hno
  obtain ⟨t, ht⟩ : ∃ t, s.extract (i + 1) s.size = t := ⟨_, rfl⟩
  have htz : t.size = s.size - (i + 1) := by rw [← ht, size_tail]
  have htm : t.size ≤ 1048576 := by omega
  by_cases hsg : t.size ≠ 0 ∧ Sg (bt t 0)
  · have HS : Hid (t.size ≠ 0 ∧ Sg (bt t 0)) := hsg
    have hsz : 1 ≤ t.size := by omega
    clear hsg htz
    obtain ⟨b', hb'⟩ := allD_ex (t.extract 1 t.size)
    have hend : CutIf s (s.extract 0 i) (!b') := by
      have h0 : bt t 0 = bt s (i + 1) := by rw [← ht, bt_tail s (i + 1) 0 (by rw [← ht, size_tail] at hsz; omega)]
      have hz : i + 1 < s.size := by rw [← ht, size_tail] at hsz; omega
      have hd : Digs (t.extract 1 t.size) 0 ↔ Digs s (i + 2) := by rw [← ht]; exact digs_tail2 s (i + 1) hz
      have hsg : Sg (bt s (i + 1)) := by rw [← h0]; exact HS.out.2
      cases b' with
      | true => exact cut_at ⟨hi, HE.out, HO.out, Or.inr ⟨hz, hsg, hd.1 (hb'.1 rfl)⟩⟩
      | false =>
        refine cut_not HE.out HO.out ?_
        rintro (h | ⟨_, _, h⟩)
        · exact sg_not_dg hsg (h.2 (i + 1) (by omega) hz)
        · exact absurd (hb'.2 (hd.2 h)) (by decide)
    go_enter Try.func21, Try.ntmps21
    go_wp2_with (first
      | (go_at_call 23; refine (ia_any _ _ HN.out hs _).mono ?_; rintro e w1 ⟨rfl, hb1⟩)
      | (go_at_call 24; refine (cutSign_yes t htm HS.out.1 HS.out.2 _).mono ?_; rintro e w2 ⟨rfl, n2, hw2⟩)
      | (go_at_call 11; refine (digits_any (t.extract 1 t.size) (by simp; omega) b' hb' _).mono ?_; rintro e w3 ⟨rfl, rfl⟩))
    · go_ret2
      have hbf : b' = false := by cases b' <;> simp_all
      subst hbf
      exact ⟨ret_cut hend.t HC.out, below_drewN hb1 _⟩
    · go_ret2
      have hbt : b' = true := by cases b' <;> simp_all
      subst hbt
      exact ⟨ret_cut hend.f HC.out, below_drewN hb1 _⟩
  · have HS : Hid (¬ (t.size ≠ 0 ∧ Sg (bt t 0))) := hsg
    clear hsg htz
    obtain ⟨b', hb'⟩ := allD_ex t
    have hend : CutIf s (s.extract 0 i) (!b') := by
      have hd : Digs t 0 ↔ Digs s (i + 1) := by rw [← ht]; exact digs_tail s (i + 1)
      cases b' with
      | true => exact cut_at ⟨hi, HE.out, HO.out, Or.inl (hd.1 (hb'.1 rfl))⟩
      | false =>
        refine cut_not HE.out HO.out ?_
        rintro (h | ⟨hz, hsg, h⟩)
        · exact absurd (hb'.2 (hd.2 h)) (by decide)
        · refine HS.out ⟨by rw [← ht, size_tail]; omega, ?_⟩
          rw [← ht, bt_tail s (i + 1) 0 (by omega)]; exact hsg
    go_enter Try.func21, Try.ntmps21
    go_wp2_with (first
      | (go_at_call 23; refine (ia_any _ _ HN.out hs _).mono ?_; rintro e w1 ⟨rfl, hb1⟩)
      | (go_at_call 24; refine (cutSign_no t htm HS.out _).mono ?_; rintro e w2 ⟨rfl, rfl⟩)
      | (go_at_call 11; refine (digits_any t htm b' hb' _).mono ?_; rintro e w3 ⟨rfl, rfl⟩))
    · go_ret2
      have hbf : b' = false := by cases b' <;> simp_all
      subst hbf
      exact ⟨ret_cut hend.t HC.out, by assumption⟩
    · go_ret2
      have hbt : b' = true := by cases b' <;> simp_all
      subst hbt
      exact ⟨ret_cut hend.f HC.out, by assumption⟩

theorem we_any (s r : ByteArray) (b : Bool) (hc : Cut s r b) (hs : s.size ≤ 1048576) (w : World) :
    Calls Try.prog 21 #[.string s] w fun e w' => e = .returned (.tuple #[.string r, .bool b]) ∧ Below w.heap.size w w' := by
  rcases first_lib s with ⟨_, hno⟩ | ⟨i, _, hi, he, hno⟩
  · refine (we_none s hs hno w).mono fun e w' ⟨h1, h2⟩ => ⟨?_, h2⟩
    rw [h1]; exact ret_cut (cut_none s hno) hc
  · exact we_mark s r b hc hs i hi he hno w

set_option maxHeartbeats 2000000 in
theorem zz_any (s r : ByteArray) (b : Bool) (hc : Cut s r b) (hs : s.size ≤ 1048576) (w : World) :
    Calls Try.prog 15 #[.string s] w fun e w' => e = .returned (.tuple #[.string r, .bool b]) ∧ Below w.heap.size w w' := by
  go_enter Try.func15, Try.ntmps15
  go_wp2_with (go_at_call 21; refine (we_any s r b hc hs _).mono ?_; rintro e w' ⟨rfl, hb⟩)
  go_ret2
  exact ⟨rfl, by assumption⟩

end Go.Proofs.Qxb6601839a
