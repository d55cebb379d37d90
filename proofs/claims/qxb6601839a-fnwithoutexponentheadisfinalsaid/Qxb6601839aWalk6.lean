/-
  WALKS: strings.IndexRune at "eE" and a rune beyond ASCII other than U+FFFD. (A hypothesis with a great numeral costs 25 s at each 'contradiction' that the walk tries: so each is laid late and cleared early.)
-/
import Derived.Test.Qxb6601839aWalk5
namespace Go.Proofs.Qxb6601839a
open Go.RowKit Plain

set_option maxRecDepth 1000000 in
set_option maxHeartbeats 4000000 in
theorem ir_high (r : Nat) (h1 : (128 : Int) ≤ r) (hv : Hid (Utf8.valid r = true)) (h3 : Hid (r ≠ 65533)) (w : World) :
    Calls Try.prog 25 #[.string ⟨#[101, 69]⟩, .int .i32 r] w fun e w' => e = .returned (.int .i64 (-1)) ∧ ∃ n, w' = w.drewN n := by
  have h3' : ∀ x : Int, x = (r : Int) → (x == 65533) = false := fun x hx => by rw [beq_eq_false_iff_ne]; have := h3.out; omega
  go_enter Try.func25, Try.ntmps25
  go_wp2_with fail
  clear h3'
  refine (vr31 _ hv _).mono ?_
  rintro e w' ⟨rfl, rfl⟩
  go_wp2
  go_step3
  obtain ⟨rs, hrs⟩ : ∃ rs, Utf8.encode r = rs := ⟨_, rfl⟩
  obtain ⟨hz2, hz4, hlast⟩ := encode_facts r hv.out h1
  rw [hrs] at hz2 hz4
  have HL : Hid (∀ h : rs.size - 1 < rs.size, 128 ≤ (rs[rs.size - 1]'h).toNat) := by rw [← hrs]; exact hlast
  clear hlast
  by_cases hz : rs.size = 2
  · have h12 : 1 < rs.size := by omega
    have hl1 : 128 ≤ (rs[1]'h12).toNat := by
      have := HL.out (by omega)
      have e : rs.size - 1 = 1 := by omega
      simpa only [e] using this
    have hne : (((({ data := #[101, 69] } : ByteArray)[1]'(by decide)).toNat : Int) != ((rs[1]'h12).toNat : Int)) = true := by
      rw [bne_iff_ne]; show (69 : Int) ≠ _; omega
    have HL1 : Hid (128 ≤ (rs[1]'h12).toNat) := hl1
    clear hl1 HL h1
    go_wp2
    refine wp_loop_rounds 1 ?_
    rw [rounds_succ]
    go_wp2
    go_step3
    go_wp2
    go_quiet (fail)
    go_wp2
    have hw2 : IntKind.i64.wrap 2 = 2 := by decide
    have hfi : ∀ c : UInt8, firstIdx ⟨#[]⟩ c = -1 := fun c => firstIdx_none _ _ fun b hb => by simp at hb
    have hsl : ∀ w, (Instr.slice 9 (.string ⟨#[101, 69]⟩) (some (.int .i64 2)) none none).run Try.prog w = .ok (.string ⟨#[]⟩) w := fun _ => by kernel_rfl
    obtain ⟨wq, HW, hwq⟩ : ∃ wq, Hid (∃ m, wq = w'.drewN m) ∧ w'.drewN nq = wq := ⟨_, ⟨_, rfl⟩, rfl⟩
    rw [hwq]
    clear hwq
    go_quiet ((go_at_call 30; exact Calls.quiet_of_same (ib30 _ _ _)))
    go_wp2
    simp only [Exit.noGoto_ret, Exit.inBlock, Exit.then]
    go_ret
    obtain ⟨m, hm⟩ := HW.out
    exact ⟨rfl, m + nq, by rw [hm, World.drewN_drewN]⟩
  · go_wp2
    have hge : ¬ ((rs.size : Int) - 1 < 2) := by omega
    refine wp_loop_rounds 1 ?_
    rw [rounds_succ]
    go_wp2
    go_ret
    exact ⟨rfl, 0, rfl⟩

end Go.Proofs.Qxb6601839a
