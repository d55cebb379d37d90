/-
  THE PLAIN LAW of 'namesDNS' against its model: bytes of a string by their places; no run of the model in this text.
-/
namespace Go.Proofs.Qxb6601968a.Plain

/-- The byte at place k, as a number (0 beyond the end). -/
def bt (s : ByteArray) (k : Nat) : Nat := (s.data.toList[k]?.getD 0).toNat

theorem bt_eq (s : ByteArray) (k : Nat) (h : k < s.size) : bt s k = (s[k]'h).toNat := by
  unfold bt
  have : s.data.toList[k]? = some (s[k]'h) := by
    rw [Array.getElem?_toList]
    exact Array.getElem?_eq_getElem h
  rw [this]; rfl

theorem size_len (s : ByteArray) : s.size = s.data.toList.length := by simp only [Array.length_toList]; rfl
theorem size_extract (s : ByteArray) (a b : Nat) : (s.extract a b).size = min b s.size - a := by simp
theorem bt_extract (s : ByteArray) (a b k : Nat) (hb : b ≤ s.size) (h : a + k < b) : bt (s.extract a b) k = bt s (a + k) := by
  rw [bt_eq s (a + k) (by omega), bt_eq _ k (by rw [size_extract]; omega)]
  simp [ByteArray.getElem_extract]

/-- An item that names dns begins at p. -/
def Hit (s : ByteArray) (p : Nat) : Prop :=
  (p = 0 ∨ bt s (p - 1) = 44) ∧ p + 3 ≤ s.size ∧ bt s p = 100 ∧ bt s (p + 1) = 110 ∧ bt s (p + 2) = 115 ∧
  ((p + 3 < s.size ∧ bt s (p + 3) = 42 ∧ (p + 4 = s.size ∨ bt s (p + 4) = 44 ∨ bt s (p + 4) = 58)) ∨
   (¬ (p + 3 < s.size ∧ bt s (p + 3) = 42) ∧ (p + 3 = s.size ∨ bt s (p + 3) = 44 ∨ bt s (p + 3) = 58)))

/-- The answer to 'does some item name dns?' -/
def Ans (s : ByteArray) (b : Bool) : Prop := b = true ↔ ∃ p, Hit s p
theorem ans_ex (s : ByteArray) : ∃ b, Ans s b := by
  rcases Classical.em (∃ p, Hit s p) with h | h
  · exact ⟨true, fun _ => h, fun _ => rfl⟩
  · exact ⟨false, fun e => (by cases e), fun e => absurd e h⟩
theorem Ans.yes {s : ByteArray} {b : Bool} (h : Ans s b) (p : Nat) (hp : Hit s p) : b = true := h.2 ⟨p, hp⟩
theorem Ans.no {s : ByteArray} {b : Bool} (h : Ans s b) (hp : ∀ p, ¬ Hit s p) : b = false := by
  cases b with
  | false => rfl
  | true => obtain ⟨p, h⟩ := h.1 rfl; exact absurd h (hp p)

/-- The item from a to i, its name up to j: where the colon stands, or i. -/
structure Item (s : ByteArray) (a i j : Nat) : Prop where
  le : a ≤ j ∧ j ≤ i ∧ i ≤ s.size
  start : a = 0 ∨ bt s (a - 1) = 44
  noComma : ∀ k, a ≤ k → k < i → bt s k ≠ 44
  stop : i = s.size ∨ bt s i = 44
  noColon : ∀ k, a ≤ k → k < j → bt s k ≠ 58
  colon : j = i ∨ bt s j = 58

/-- The name, its one star dropped, is 'dns'. -/
def IsDns (s : ByteArray) (a j : Nat) : Prop := j = a + 3 ∧ bt s a = 100 ∧ bt s (a + 1) = 110 ∧ bt s (a + 2) = 115

theorem item_star {s : ByteArray} {a i j : Nat} (h : Item s a i j) (hj : a < j) (hs : bt s (j - 1) = 42) : IsDns s a (j - 1) ↔ Hit s a := by
  obtain ⟨⟨l1, l2, l3⟩, st, nc, sp, no, co⟩ := h
  constructor
  · rintro ⟨e, h1, h2, h3⟩
    obtain rfl : j = a + 4 := by omega
    refine ⟨st, by omega, h1, h2, h3, Or.inl ⟨by omega, hs, ?_⟩⟩
    rcases co with rfl | co
    · rcases sp with sp | sp
      · exact Or.inl sp
      · exact Or.inr (Or.inl sp)
    · exact Or.inr (Or.inr co)
  · rintro ⟨_, hz, h1, h2, h3, hx⟩
    have i3 : a + 3 ≤ i := by
      rcases sp with sp | sp
      · omega
      · have e0 : i ≠ a := fun e => by rw [e] at sp; omega
        have e1 : i ≠ a + 1 := fun e => by rw [e] at sp; omega
        have e2 : i ≠ a + 2 := fun e => by rw [e] at sp; omega
        omega
    have j3 : a + 3 ≤ j := by
      rcases co with co | co
      · omega
      · have e0 : j ≠ a := fun e => by rw [e] at co; omega
        have e1 : j ≠ a + 1 := fun e => by rw [e] at co; omega
        have e2 : j ≠ a + 2 := fun e => by rw [e] at co; omega
        omega
    have j4 : j ≠ a + 3 := fun e => by rw [e] at hs; simp at hs; omega
    refine ⟨?_, h1, h2, h3⟩
    rcases hx with ⟨z, x, y⟩ | ⟨z, y⟩
    · have : ¬ a + 4 < j := fun c => by
        have c1 := nc (a + 4) (by omega) (by omega)
        have c2 := no (a + 4) (by omega) c
        omega
      omega
    · have c1 := nc (a + 3) (by omega) (by omega)
      have c2 := no (a + 3) (by omega) (by omega)
      omega

theorem item_plain {s : ByteArray} {a i j : Nat} (h : Item s a i j) (hs : ¬ (a < j ∧ bt s (j - 1) = 42)) : IsDns s a j ↔ Hit s a := by
  obtain ⟨⟨l1, l2, l3⟩, st, nc, sp, no, co⟩ := h
  constructor
  · rintro ⟨e, h1, h2, h3⟩
    subst e
    have key : a + 3 = s.size ∨ bt s (a + 3) = 44 ∨ bt s (a + 3) = 58 := by
      rcases co with rfl | co
      · rcases sp with sp | sp
        · exact Or.inl sp
        · exact Or.inr (Or.inl sp)
      · exact Or.inr (Or.inr co)
    exact ⟨st, by omega, h1, h2, h3, Or.inr ⟨by omega, key⟩⟩
  · rintro ⟨_, hz, h1, h2, h3, hx⟩
    have i3 : a + 3 ≤ i := by
      rcases sp with sp | sp
      · omega
      · have e0 : i ≠ a := fun e => by rw [e] at sp; omega
        have e1 : i ≠ a + 1 := fun e => by rw [e] at sp; omega
        have e2 : i ≠ a + 2 := fun e => by rw [e] at sp; omega
        omega
    have j3 : a + 3 ≤ j := by
      rcases co with co | co
      · omega
      · have e0 : j ≠ a := fun e => by rw [e] at co; omega
        have e1 : j ≠ a + 1 := fun e => by rw [e] at co; omega
        have e2 : j ≠ a + 2 := fun e => by rw [e] at co; omega
        omega
    refine ⟨?_, h1, h2, h3⟩
    rcases hx with ⟨z, x, y⟩ | ⟨z, y⟩
    · exfalso
      have i4 : i ≠ a + 3 := fun e => by
        rcases sp with sp | sp
        · omega
        · rw [e] at sp; omega
      have j4 : j ≠ a + 3 := fun e => by
        rcases co with co | co
        · omega
        · rw [e] at co; omega
      have j5 : ¬ a + 4 < j := fun c => by
        have c1 := nc (a + 4) (by omega) (by omega)
        have c2 := no (a + 4) (by omega) c
        omega
      obtain rfl : j = a + 4 := by omega
      exact hs ⟨by omega, x⟩
    · have : ¬ a + 3 < j := fun c => by
        have c1 := nc (a + 3) (by omega) (by omega)
        have c2 := no (a + 3) (by omega) c
        omega
      omega

/-- No item begins inside another. -/
theorem no_inner {s : ByteArray} {a i p : Nat} (h : ∀ k, a ≤ k → k < i → bt s k ≠ 44) (h1 : a < p) (h2 : p ≤ i) : ¬ Hit s p := by
  rintro ⟨st, _⟩
  rcases st with st | st
  · omega
  · exact h (p - 1) (by omega) (by omega) st

/-- n: the place of the first colon, or -1. -/
def FirstC (s : ByteArray) (n : Int) : Prop := (n = -1 ∧ ∀ j, j < s.size → bt s j ≠ 58) ∨ (∃ i : Nat, n = i ∧ i < s.size ∧ bt s i = 58 ∧ ∀ j, j < i → bt s j ≠ 58)

theorem dns_eq (u : ByteArray) : (u.data.toList == [100, 110, 115]) = decide (u.size = 3 ∧ bt u 0 = 100 ∧ bt u 1 = 110 ∧ bt u 2 = 115) := by
  rw [size_len]
  unfold bt
  generalize u.data.toList = l
  match l with
  | [] => rfl
  | [_] => simp
  | [_, _] => simp
  | [a, b, c] =>
    have k : ∀ (x : UInt8) (n : Nat), n < 256 → (x.toNat = n ↔ x = UInt8.ofNat n) := fun x n hn => by
      rw [← UInt8.toNat_inj, UInt8.toNat_ofNat']
      have : n % 2 ^ 8 = n := Nat.mod_eq_of_lt hn
      rw [this]
    rw [Bool.eq_iff_iff]
    simp [k _ 100 (by omega), k _ 110 (by omega), k _ 115 (by omega)]
  | _ :: _ :: _ :: _ :: _ => simp

end Go.Proofs.Qxb6601968a.Plain
