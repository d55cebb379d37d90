/-
  THE PLAIN LAW OF THE SCAN: what zzScanJSON has read is a walk of storedSize's own steps; a number's end is known only when the next byte is seen.
-/
import Derived.Test.Qxb6602476aNum
namespace Go.Proofs.Qxb6602476a.Plain

/-- The scan stands at i with s; the last step may be a number whose end is not yet seen. -/
def Pend (v : Nat → Nat) (n i : Nat) (s : Int) : Prop :=
  Reach v n i s ∨ ∃ j s0 r, Reach v n j s0 ∧ j < n ∧ (v j = 45 ∨ Dg (v j)) ∧ j < i ∧ i ≤ n ∧ (∀ k, j < k → k < i → NumCh (v k)) ∧ NumSz v j i r ∧ s = s0 + r
theorem Pend.settle {v : Nat → Nat} {n i : Nat} {s : Int} (h : Pend v n i s) (hi : i < n → ¬ NumCh (v i)) : Reach v n i s := by
  rcases h with h | ⟨j, s0, r, h1, h2, h3, h4, h5, h6, h7, rfl⟩
  · exact h
  · exact h1.step (.num h2 h3 h4 h5 h6 hi h7)
theorem Reach.pend {v : Nat → Nat} {n i : Nat} {s : Int} (h : Reach v n i s) : Pend v n i s := Or.inl h
/-- A byte that stands for itself. -/
theorem Reach.one {v : Nat → Nat} {n i c : Nat} {s : Int} (h : Reach v n i s) (hi : i < n) (hc : v i = c) (h1 : c ≠ 34) (h2 : c ≠ 45) (h3 : c < 48 ∨ 57 < c) (h4 : c ≠ 32 ∧ c ≠ 9 ∧ c ≠ 10 ∧ c ≠ 13) : Reach v n (i + 1) (s + 1) := by
  refine h.step (.other hi (by omega) (by omega) ?_ ?_)
  · unfold Dg; omega
  · unfold Sp; omega
theorem Reach.spc {v : Nat → Nat} {n i : Nat} {s : Int} (h : Reach v n i s) (hi : i < n) (hc : Sp (v i)) : Reach v n (i + 1) s := by
  have := h.step (.space hi hc)
  rwa [Int.add_zero] at this
theorem Sp.not_num {c : Nat} (h : Sp c) : ¬ NumCh c := by unfold Sp at h; unfold NumCh Dg; omega
theorem Pend.spc {v : Nat → Nat} {n i : Nat} {s : Int} (h : Pend v n i s) (hi : i < n) (hc : Sp (v i)) : Reach v n (i + 1) s := (h.settle fun _ => hc.not_num).spc hi hc
theorem Pend.one {v : Nat → Nat} {n i c : Nat} {s : Int} (h : Pend v n i s) (hi : i < n) (hc : v i = c) (h1 : c = 44 ∨ c = 93 ∨ c = 125) : Reach v n (i + 1) (s + 1) := by
  refine (h.settle fun _ => ?_).one hi hc (by omega) (by omega) (by omega) (by omega)
  rw [hc]; unfold NumCh Dg; omega
theorem Reach.str {v : Nat → Nat} {n i e : Nat} {s : Int} (h : Reach v n i s) (hi : i < n) (hc : v i = 34) (he : StrEnd v n (i + 1) e) : Reach v n e (s + ((e : Int) - i)) := by
  have := h.step (.str hi hc he)
  have hb := he.bound
  have e1 : ((e - i : Nat) : Int) = (e : Int) - i := by omega
  rwa [e1] at this
theorem Reach.word4 {v : Nat → Nat} {n i : Nat} {s : Int} (h : Reach v n i s) (hn : i + 4 ≤ n) {c0 c1 c2 c3 : Nat} (h0 : v i = c0) (h1 : v (i + 1) = c1) (h2 : v (i + 2) = c2) (h3 : v (i + 3) = c3) (w0 : 97 ≤ c0) (w1 : 97 ≤ c1) (w2 : 97 ≤ c2) (w3 : 97 ≤ c3) : Reach v n (i + 4) (s + 4) := by
  have r1 := h.one (by omega) h0 (by omega) (by omega) (by omega) (by omega)
  have r2 := r1.one (by omega) h1 (by omega) (by omega) (by omega) (by omega)
  have r3 := r2.one (by omega) h2 (by omega) (by omega) (by omega) (by omega)
  have r4 := r3.one (by omega) h3 (by omega) (by omega) (by omega) (by omega)
  have e : s + 1 + 1 + 1 + 1 = s + 4 := by omega
  rw [e] at r4
  exact r4
theorem Reach.word5 {v : Nat → Nat} {n i : Nat} {s : Int} (h : Reach v n i s) (hn : i + 5 ≤ n) {c0 c1 c2 c3 c4 : Nat} (h0 : v i = c0) (h1 : v (i + 1) = c1) (h2 : v (i + 2) = c2) (h3 : v (i + 3) = c3) (h4 : v (i + 4) = c4) (w0 : 97 ≤ c0) (w1 : 97 ≤ c1) (w2 : 97 ≤ c2) (w3 : 97 ≤ c3) (w4 : 97 ≤ c4) : Reach v n (i + 5) (s + 5) := by
  have r4 := (h.word4 (by omega) h0 h1 h2 h3 w0 w1 w2 w3).one (by omega) h4 (by omega) (by omega) (by omega) (by omega)
  have e : s + 4 + 1 = s + 5 := by omega
  rw [e] at r4
  exact r4
theorem Reach.number {v : Nat → Nat} {n i e : Nat} {s sz : Int} {ex : Bool} (h : Reach v n i s) (hi : i < n) (hc : v i = 45 ∨ Dg (v i)) (hr : NumRes v n i e sz ex) : ∃ r, Pend v n e (s + r) ∧ (ex = true → r = sz) := by
  obtain ⟨h1, h2, h3, _, _, r, h6, h7⟩ := hr
  exact ⟨r, Or.inr ⟨i, s, r, h, hi, hc, h1, h2, h3, h6, rfl⟩, h7⟩
/-- What the scan knows. -/
structure Know (v : Nat → Nat) (n st i : Nat) (sz : Int) (ex : Bool) : Prop where
  inn : i ≤ n
  st5 : st ≤ 5
  lo : 0 ≤ sz
  hi : sz ≤ i * 4294967296
  at' : ∃ s, Pend v n i s ∧ (st ≠ 2 → Reach v n i s) ∧ (ex = true → sz = s)
theorem Know.start (v : Nat → Nat) (n : Nat) : Know v n 0 0 0 true := ⟨by omega, by omega, by omega, by omega, 0, Reach.start.pend, fun _ => Reach.start, fun _ => rfl⟩
theorem Know.space {v : Nat → Nat} {n st i : Nat} {sz : Int} {ex : Bool} (h : Know v n st i sz ex) (hi : i < n) (hc : Sp (v i)) : Know v n st (i + 1) sz ex := by
  obtain ⟨s, h1, h2, h3⟩ := h.at'
  have hh := h.hi
  exact ⟨by omega, h.st5, h.lo, by omega, s, (h1.spc hi hc).pend, fun _ => h1.spc hi hc, h3⟩
/-- .. a byte behind a value. -/
theorem Know.behind {v : Nat → Nat} {n st i c st' : Nat} {sz : Int} {ex : Bool} (h : Know v n st i sz ex) (hi : i < n) (hc : v i = c) (h1 : c = 44 ∨ c = 93 ∨ c = 125) (hs : st' ≤ 5) : Know v n st' (i + 1) (sz + 1) ex := by
  obtain ⟨s, k1, k2, k3⟩ := h.at'
  have hh := h.hi
  have hl := h.lo
  have r := k1.one hi hc h1
  exact ⟨by omega, hs, by omega, by omega, s + 1, r.pend, fun _ => r, fun he => by rw [k3 he]⟩
/-- .. a byte that stands for itself, elsewhere. -/
theorem Know.byte {v : Nat → Nat} {n st i c st' : Nat} {sz : Int} {ex : Bool} (h : Know v n st i sz ex) (hst : st ≠ 2) (hi : i < n) (hc : v i = c) (h1 : c = 58 ∨ 91 ≤ c) (hs : st' ≤ 5) : Know v n st' (i + 1) (sz + 1) ex := by
  obtain ⟨s, k1, k2, k3⟩ := h.at'
  have hh := h.hi
  have hl := h.lo
  have r := (k2 hst).one hi hc (by omega) (by omega) (by omega) (by omega)
  exact ⟨by omega, hs, by omega, by omega, s + 1, r.pend, fun _ => r, fun he => by rw [k3 he]⟩
theorem Know.str {v : Nat → Nat} {n st i e st' : Nat} {sz : Int} {ex : Bool} (h : Know v n st i sz ex) (hst : st ≠ 2) (hi : i < n) (hc : v i = 34) (he : StrEnd v n (i + 1) e) (hs : st' ≤ 5) : Know v n st' e (sz + ((e : Int) - i)) ex := by
  obtain ⟨s, k1, k2, k3⟩ := h.at'
  have hh := h.hi
  have hl := h.lo
  have hb := he.bound
  have r := (k2 hst).str hi hc he
  exact ⟨by omega, hs, by omega, by omega, _, r.pend, fun _ => r, fun he => by rw [k3 he]⟩
theorem Know.word {v : Nat → Nat} {n st i l : Nat} {sz : Int} {ex : Bool} (h : Know v n st i sz ex) (hst : st ≠ 2) (hl : i + l ≤ n) (hr : ∀ s, Reach v n i s → Reach v n (i + l) (s + l)) : Know v n 2 (i + l) (sz + l) ex := by
  obtain ⟨s, k1, k2, k3⟩ := h.at'
  have hh := h.hi
  have hl := h.lo
  have r := hr s (k2 hst)
  exact ⟨by omega, by omega, by omega, by omega, _, r.pend, fun _ => r, fun he => by rw [k3 he]⟩
theorem Know.number {v : Nat → Nat} {n st i e : Nat} {sz ns : Int} {ex ok : Bool} (h : Know v n st i sz ex) (hst : st ≠ 2) (hi : i < n) (hc : v i = 45 ∨ Dg (v i)) (hr : NumRes v n i e ns ok) : Know v n 2 e (sz + ns) (ex && ok) := by
  obtain ⟨s, k1, k2, k3⟩ := h.at'
  have hh := h.hi
  have hl := h.lo
  obtain ⟨r, p1, p2⟩ := (k2 hst).number hi hc hr
  obtain ⟨h1, h2, _, h4, h5, _⟩ := hr
  refine ⟨h2, by omega, by omega, by omega, s + r, p1, fun c => by omega, fun he => ?_⟩
  rw [Bool.and_eq_true] at he
  rw [k3 he.1, p2 he.2]
/-- What zzScanJSON answers. -/
def Answer (v : Nat → Nat) (n : Nat) (sz : Int) (ok ex : Bool) : Prop := ok = true → ∃ s, Reach v n n s ∧ (ex = true → sz = s)
theorem Know.answer {v : Nat → Nat} {n st : Nat} {sz : Int} {ex : Bool} (h : Know v n st n sz ex) (ok : Bool) : Answer v n sz ok ex := by
  intro _
  obtain ⟨s, k1, k2, k3⟩ := h.at'
  exact ⟨s, k1.settle (fun c => by omega), k3⟩
end Go.Proofs.Qxb6602476a.Plain
