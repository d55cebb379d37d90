/-
  THE PLAIN LAW of 'withoutExponent' against the scan from the end: bytes of a string by their places; no run of the model in this text.
-/
namespace Go.Proofs.Qxb6601839a.Plain

/-- The byte at place k, as a number (0 beyond the end). -/
def bt (s : ByteArray) (k : Nat) : Nat := (s.data.toList[k]?.getD 0).toNat

def E (n : Nat) : Prop := n = 101 ∨ n = 69
def Sg (n : Nat) : Prop := n = 43 ∨ n = 45
def Dg (n : Nat) : Prop := 48 ≤ n ∧ n ≤ 57

theorem bt_eq (s : ByteArray) (k : Nat) (h : k < s.size) : bt s k = (s[k]'h).toNat := by
  unfold bt
  have : s.data.toList[k]? = some (s[k]'h) := by
    rw [Array.getElem?_toList]
    exact Array.getElem?_eq_getElem h
  rw [this]; rfl

theorem size_extract (s : ByteArray) (a b : Nat) : (s.extract a b).size = min b s.size - a := by simp
theorem bt_extract (s : ByteArray) (a b k : Nat) (hb : b ≤ s.size) (h : a + k < b) : bt (s.extract a b) k = bt s (a + k) := by
  rw [bt_eq s (a + k) (by omega), bt_eq _ k (by rw [size_extract]; omega)]
  simp [ByteArray.getElem_extract]

/-- All bytes from k to the end are digits, and there is one. -/
def Digs (s : ByteArray) (k : Nat) : Prop := k < s.size ∧ ∀ m, k ≤ m → m < s.size → Dg (bt s m)

/-- The answer b to 'is some byte of s a mark?' -/
def HasE (s : ByteArray) (b : Bool) : Prop := b = true ↔ ∃ k, k < s.size ∧ E (bt s k)
/-- The answer b to 'is s digits alone, one or more?' -/
def AllD (s : ByteArray) (b : Bool) : Prop := b = true ↔ Digs s 0
theorem allD_ex (s : ByteArray) : ∃ b, AllD s b := by
  rcases Classical.em (Digs s 0) with h | h
  · exact ⟨true, fun _ => h, fun _ => rfl⟩
  · exact ⟨false, fun e => (by cases e), fun e => absurd e h⟩

/-- The exponent that ends s begins at i. -/
def At (s : ByteArray) (i : Nat) : Prop :=
  i < s.size ∧ E (bt s i) ∧ (∀ j, j < i → ¬ E (bt s j)) ∧ (Digs s (i + 1) ∨ (i + 1 < s.size ∧ Sg (bt s (i + 1)) ∧ Digs s (i + 2)))

theorem At.uniq {s : ByteArray} {i j : Nat} (h : At s i) (g : At s j) : i = j := by
  rcases Nat.lt_trichotomy i j with l | l | l
  · exact absurd h.2.1 (g.2.2.1 i l)
  · exact l
  · exact absurd g.2.1 (h.2.2.1 j l)

/-- n: the place of the first mark, or -1. -/
def First (s : ByteArray) (n : Int) : Prop := (n = -1 ∧ ∀ j, j < s.size → ¬ E (bt s j)) ∨ (∃ i : Nat, n = i ∧ i < s.size ∧ E (bt s i) ∧ ∀ j, j < i → ¬ E (bt s j))
theorem First.uniq {s : ByteArray} {n m : Int} (h : First s n) (g : First s m) : n = m := by
  rcases h with ⟨rfl, hn⟩ | ⟨i, rfl, hi, he, hno⟩ <;> rcases g with ⟨rfl, gn⟩ | ⟨j, rfl, hj, ge, gno⟩
  · rfl
  · exact absurd ge (hn j hj)
  · exact absurd he (gn i hi)
  · rcases Nat.lt_trichotomy i j with l | l | l
    · exact absurd he (gno i l)
    · rw [l]
    · exact absurd ge (hno j l)

/-- What a cut hands back: the head and true where an exponent ends s, else s and false. -/
def Cut (s r : ByteArray) (b : Bool) : Prop := (b = true ∧ ∃ i, At s i ∧ r = s.extract 0 i) ∨ (b = false ∧ r = s ∧ ∀ i, ¬ At s i)

theorem Cut.uniq {s r r' : ByteArray} {b b' : Bool} (h : Cut s r b) (g : Cut s r' b') : b = b' ∧ r = r' := by
  rcases h with ⟨rfl, i, hi, rfl⟩ | ⟨rfl, rfl, hn⟩ <;> rcases g with ⟨rfl, j, hj, rfl⟩ | ⟨rfl, rfl, gn⟩
  · exact ⟨rfl, by rw [hi.uniq hj]⟩
  · exact absurd hi (gn i)
  · exact absurd hj (hn j)
  · exact ⟨rfl, rfl⟩

theorem cut_ex (s : ByteArray) : ∃ r b, Cut s r b := by
  rcases Classical.em (∃ i, At s i) with ⟨i, h⟩ | h
  · exact ⟨_, true, Or.inl ⟨rfl, i, h, rfl⟩⟩
  · exact ⟨s, false, Or.inr ⟨rfl, rfl, fun i hi => h ⟨i, hi⟩⟩⟩

/-- The scan from the end: j is the place behind which all are digits; the byte ahead of j is none. -/
def Stop (s : ByteArray) (j : Nat) : Prop := j ≤ s.size ∧ (∀ m, j ≤ m → m < s.size → Dg (bt s m)) ∧ (0 < j → ¬ Dg (bt s (j - 1)))

theorem dg_not_e {n : Nat} (h : Dg n) : ¬ E n := by unfold Dg at h; unfold E; omega
theorem sg_not_dg {n : Nat} (h : Sg n) : ¬ Dg n := by unfold Sg at h; unfold Dg; omega
theorem e_not_dg {n : Nat} (h : E n) : ¬ Dg n := by unfold E at h; unfold Dg; omega
theorem e_not_sg {n : Nat} (h : E n) : ¬ Sg n := by unfold E at h; unfold Sg; omega

/-- Where an exponent begins at i, the scan from the end has stopped at i + 1, or at i + 2 behind a sign. -/
theorem At.stop {s : ByteArray} {i j : Nat} (h : At s i) (hs : Stop s j) : j < s.size ∧ ((j = i + 1) ∨ (j = i + 2 ∧ Sg (bt s (i + 1)))) := by
  obtain ⟨hi, he, hno, ht⟩ := h
  obtain ⟨hj, hd, hp⟩ := hs
  rcases ht with ⟨h1, h2⟩ | ⟨h1, hsg, h2, h3⟩
  · have a : ¬ j ≤ i := fun c => e_not_dg he (hd i c hi)
    have b : ¬ i + 1 < j := fun c => hp (by omega) (h2 (j - 1) (by omega) (by omega))
    exact ⟨by omega, Or.inl (by omega)⟩
  · have a : ¬ j ≤ i + 1 := fun c => sg_not_dg hsg (hd (i + 1) c h1)
    have b : ¬ i + 2 < j := fun c => hp (by omega) (h3 (j - 1) (by omega) (by omega))
    exact ⟨by omega, Or.inr ⟨by omega, hsg⟩⟩

theorem cut_none (s : ByteArray) (h : ∀ j, j < s.size → ¬ E (bt s j)) : Cut s s false :=
  Or.inr ⟨rfl, rfl, fun i hi => h i hi.1 hi.2.1⟩

theorem cut_at {s : ByteArray} {i : Nat} (h : At s i) : Cut s (s.extract 0 i) true := Or.inl ⟨rfl, i, h, rfl⟩

/-- The first mark stands at i, and what follows it is no exponent. -/
theorem cut_not {s : ByteArray} {i : Nat} (he : E (bt s i)) (hno : ∀ j, j < i → ¬ E (bt s j))
    (hn : ¬ (Digs s (i + 1) ∨ (i + 1 < s.size ∧ Sg (bt s (i + 1)) ∧ Digs s (i + 2)))) : Cut s s false := by
  refine Or.inr ⟨rfl, rfl, fun k hk => ?_⟩
  rcases Nat.lt_trichotomy i k with l | l | l
  · exact hk.2.2.1 i l he
  · subst l; exact hn hk.2.2.2
  · exact hno k l hk.2.1

/-! The ends of the scan from the end. -/
theorem back_all (s : ByteArray) (hs : Stop s s.size) : Cut s s false :=
  Or.inr ⟨rfl, rfl, fun i hi => by have := (hi.stop hs).1; omega⟩
/-- Nothing ahead of the digits, or of the sign ahead of them. -/
theorem back_zero (s : ByteArray) (hs : Stop s 0) : Cut s s false :=
  Or.inr ⟨rfl, rfl, fun i hi => by have := (hi.stop hs).2; omega⟩
theorem back_sign_zero (s : ByteArray) (hs : Stop s 1) (hg : Sg (bt s 0)) : Cut s s false := by
  refine Or.inr ⟨rfl, rfl, fun i hi => ?_⟩
  have h := (hi.stop hs).2
  obtain rfl : i = 0 := by omega
  exact e_not_sg hi.2.1 hg
/-- No sign: the byte ahead of the digits is no mark. -/
theorem back_nomark (s : ByteArray) (j : Nat) (hs : Stop s j) (h0 : 0 < j) (hg : ¬ Sg (bt s (j - 1))) (he : ¬ E (bt s (j - 1))) : Cut s s false := by
  refine Or.inr ⟨rfl, rfl, fun i hi => ?_⟩
  rcases (hi.stop hs).2 with h | ⟨h, k⟩
  · have : j - 1 = i := by omega
    rw [this] at he; exact he hi.2.1
  · have : j - 1 = i + 1 := by omega
    rw [this] at hg; exact hg k
theorem back_sign_nomark (s : ByteArray) (j : Nat) (hs : Stop s j) (h0 : 1 < j) (hg : Sg (bt s (j - 1))) (he : ¬ E (bt s (j - 2))) : Cut s s false := by
  refine Or.inr ⟨rfl, rfl, fun i hi => ?_⟩
  rcases (hi.stop hs).2 with h | ⟨h, k⟩
  · have : j - 1 = i := by omega
    rw [this] at hg; exact e_not_sg hi.2.1 hg
  · have : j - 2 = i := by omega
    rw [this] at he; exact he hi.2.1
/-- A mark further ahead. -/
theorem back_twice (s : ByteArray) (j i k : Nat) (hs : Stop s j) (hij : (i + 1 = j ∧ ¬ Sg (bt s (j - 1))) ∨ (i + 2 = j ∧ Sg (bt s (j - 1)))) (hk : k < i) (he : E (bt s k)) : Cut s s false := by
  refine Or.inr ⟨rfl, rfl, fun x hx => ?_⟩
  have hxk : ¬ k < x := fun c => hx.2.2.1 k c he
  rcases (hx.stop hs).2 with h | ⟨h, g⟩ <;> rcases hij with ⟨h', g'⟩ | ⟨h', g'⟩
  · omega
  · omega
  · have : j - 1 = x + 1 := by omega
    rw [this] at g'; exact g' g
  · omega
theorem back_hit (s : ByteArray) (j i : Nat) (hs : Stop s j) (hj : j < s.size) (hij : i + 1 = j ∨ (i + 2 = j ∧ Sg (bt s (i + 1)))) (he : E (bt s i)) (hno : ∀ k, k < i → ¬ E (bt s k)) : Cut s (s.extract 0 i) true := by
  refine cut_at ⟨by omega, he, hno, ?_⟩
  rcases hij with rfl | ⟨rfl, g⟩
  · exact Or.inl ⟨hj, hs.2.1⟩
  · exact Or.inr ⟨by omega, g, hj, hs.2.1⟩

end Go.Proofs.Qxb6601839a.Plain
