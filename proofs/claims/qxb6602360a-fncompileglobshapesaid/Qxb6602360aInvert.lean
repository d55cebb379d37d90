/-
  WALK: invert: some set of four words.
-/
import Derived.Test.Qxb6602360aFold
namespace Go.Proofs.Qxb6602360a
open Go.RowKit Plain

theorem xor_max (x : Nat) (hx : x < 18446744073709551616) : ∃ y : Nat, y < 18446744073709551616 ∧ bits .xor .u64 IntKind.u64.max (x : Int) = (y : Int) := by
  have e : IntKind.u64.max = ((18446744073709551615 : Nat) : Int) := by decide
  refine ⟨18446744073709551615 ^^^ x, Nat.xor_lt_two_pow (n := 64) (by decide) hx, ?_⟩
  rw [e]
  exact u64_xor_nat _ x (by decide) hx

set_option maxRecDepth 1000000 in
set_option maxHeartbeats 2000000 in
theorem invert_any (blk : Nat) (t : TypeId) (s : S4) (hs : s.ok) (w : World) (h : HSet w blk t s) :
    Calls Try.prog 53 #[.pointer (some ⟨blk, 0, none⟩)] w fun e w' => e = .returned (.tuple #[]) ∧ ∃ s' : S4, s'.ok ∧ HSet w' blk t s' ∧ Upd blk w w' := by
  have H : Hid (HSet w blk t s) := h
  have HS : Hid s.ok := hs
  clear h hs
  go_enter Try.func53, Try.ntmps53
  go_wp2
  go_loopg [2, 3] 4 (fun g _ v wr => ∃ (i : Nat) (s' : S4), i + g = 4 ∧ v = .int .i64 i ∧ s'.ok ∧ HSet wr blk t s' ∧ Upd blk w wr)
  case atStart => exact ⟨0, s, by omega, rfl, HS.out, H.out, Upd.refl _ _⟩
  case round =>
    obtain ⟨i, s', hig, rfl, ho0, hh0, hu0⟩ := hrel
    have HO : Hid (s'.ok) := ho0
    have HH : Hid (HSet wr blk t s') := hh0
    have HU : Hid (Upd blk w wr) := hu0
    clear ho0 hh0 hu0
    cases gk with
    | zero =>
      obtain rfl : i = 4 := by omega
      go_wp2
      go_end0
      exact ⟨rfl, s', HO.out, HH.out, HU.out⟩
    | succ g =>
      have hi4 : i < 4 := by omega
      have hi4' : (i : Int) < 4 := by omega
      have hc := HH.out.cell i hi4
      have hf := HH.out.free i
      obtain ⟨sw, hsw⟩ : ∃ sw, s'.word i = sw := ⟨_, rfl⟩
      rw [hsw] at hc
      go_wp2
      go_region
      go_wp2
      obtain ⟨y, hy, hxy⟩ := xor_max sw (by rw [← hsw]; exact S4.ok_word HO.out i)
      rw [hxy]
      go_roundg g
      case measure => omega
      case rel => exact ⟨i + 1, s'.put i y, by omega, by go_num, S4.ok_put HO.out i y hi4 hy, HH.out.store i y hi4, HU.out.trans (Upd.store blk wr i _)⟩

end Go.Proofs.Qxb6602360a
