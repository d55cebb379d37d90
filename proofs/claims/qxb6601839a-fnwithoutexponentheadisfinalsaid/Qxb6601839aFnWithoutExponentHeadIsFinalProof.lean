/-
  THE PROOF of 'Rows.FnWithoutExponentHeadIsFinalSaid'. The frame is the guide's template.
-/
import Derived.Test.Qxb6601839aRows
import Derived.Test.Qxb6601839aWalk8
import Derived.WalkKit
import Derived.ProofKit
import Derived.OpenShut
import Derived.ShutString
import Derived.ChangeOld
import Derived.Below
namespace Go.Proofs.Qxb6601839a.fnWithoutExponentHeadIsFinal
open Go.ChangeShapes Go.WideShapes Go.ChangeAt Go.RowKit
open Go.ChangeMaps (open_string shut_string)
set_option linter.unusedVariables false      -- a walk need not use every 'w<i>' (that an integer argument fits its kind)

theorem own : ownKnob Try.prog.godebug = none := by kernel_rfl

/-! ### STEP 1: THE WALK: the Go text returns true. 'Below w.heap.size w w'': nothing that was there has turned. Part the cases AHEAD of 'go_enter' where a test parts the walk; take each callee by a contract of your own. -/
theorem walk (a0 : ByteArray) (w0 : a0.size ≤ maxLen) (w : World) :
    Calls Try.prog 8 #[.string a0] w fun e w' => e = .returned (.bool true) ∧ Below w.heap.size w w' := by
  by_cases hs : a0.size ≤ 1048576
  · obtain ⟨r, b, hc⟩ := Plain.cut_ex a0
    have hlen : ¬ ((1048576 : Int) < (a0.size : Int)) := by omega
    rcases hc with ⟨rfl, i, hi, rfl⟩ | ⟨rfl, hr0, hn⟩
    · have HA : Hid (Plain.At a0 i) := hi
      have hz2 : i + 2 ≤ a0.size := by
        rcases hi.2.2.2 with h | h
        · have := h.1; omega
        · have := h.1; omega
      clear hi
      obtain ⟨r, hr⟩ : ∃ r, a0.extract 0 i = r := ⟨_, rfl⟩
      have hrz : r.size = i := by rw [← hr, Plain.size_extract]; omega
      have hrs : r.size ≤ 1048576 := by omega
      have HC : Hid (Plain.Cut a0 r true) := by rw [← hr]; exact Plain.cut_at HA.out
      have hno : ∀ j, j < r.size → ¬ Plain.E (Plain.bt r j) := fun j hj => by
        rw [← hr, Plain.bt_extract a0 0 i j (by omega) (by omega), Nat.zero_add]
        exact HA.out.2.2.1 j (by omega)
      have HR : Hid (Plain.Cut r r false) := Plain.cut_none r hno
      have HH : Plain.HasE r false := ⟨fun h => (by cases h), fun ⟨k, hk, he⟩ => absurd he (hno k hk)⟩
      have hsl : a0.extract 0 r.size = r := by rw [hrz]; exact hr
      have hz2' : (r.size : Int) + 2 ≤ (a0.size : Int) := by omega
      have hz3 : r.size ≤ a0.size := by omega
      clear hno hr hrz hz2
      go_enter Try.func8, Try.ntmps8
      go_wp2_with fail
      refine (bytes19_yes a0 hs _).mono ?_
      rintro e w1 ⟨rfl, rfl⟩
      go_wp2_with fail
      refine (zz_any a0 r true HC.out hs _).mono ?_
      rintro e w2 ⟨rfl, hb2⟩
      go_wp2_with fail
      refine (zz_any r r false HR.out hrs _).mono ?_
      rintro e w3 ⟨rfl, hb3⟩
      go_wp2_with (go_at_call 18; refine (hasExp_any r hrs false HH _).mono ?_; rintro e w4 ⟨rfl, rfl⟩)
      go_ret
      have hb : Below w1.heap.size w1 w4 := hb2.trans (hb3.mono hb2.size)
      exact ⟨rfl, hb⟩
    · have HC : Hid (Plain.Cut a0 a0 false) := .inr ⟨rfl, rfl, hn⟩
      clear hn hr0
      go_enter Try.func8, Try.ntmps8
      go_wp2_with (first
        | (go_at_call 19; refine (bytes19_yes a0 hs _).mono ?_; rintro e w1 ⟨rfl, rfl⟩)
        | (go_at_call 15; refine (zz_any a0 a0 _ HC.out hs _).mono ?_; rintro e w1 ⟨rfl, hb⟩))
      go_ret
      exact ⟨by simp, by assumption⟩
  · have hlt : 1048576 < a0.size := by omega
    go_enter Try.func8, Try.ntmps8
    go_wp2_with (go_at_call 19; refine (bytes19_no a0 w0 hlt _).mono ?_; rintro e w1 ⟨rfl, rfl⟩)
    go_ret
    exact ⟨rfl, Below.refl _ _⟩

/-! ### THE ROW's STEP: WRITTEN OUT: LEAVE IT -/
set_option maxRecDepth 100000 in
theorem lifted (os : Os) (started : os.Started) (H : Type) (enc : TypeId × Value → H) :
    ReturnsInHanded {} Try.checked os 8 .any (Rows.fnWithoutExponentHeadIsFinalSpec.pre6 enc Try.prog Try.f8 Rows.fnWithoutExponentHeadIsFinalRow.domain false) (Rows.fnWithoutExponentHeadIsFinalSpec.post enc Try.prog Try.f8 false true false false) := by
  refine returnsInHanded_of_change (C := Try.checked) own started (by kernel_rfl) Try.func8
    (ChangeSpec.witness6 (enc := enc) (C := Try.checked) false ⟨#[], #[.string ByteArray.empty], []⟩ 8 (by kernel_rfl) (by kernel_rfl) (by kernel_rfl) (by kernel_rfl)) ?_
  intro W base args ds gs before hval0 hW hcnd _
  have hval : ∀ (j : Nat) t v, Try.f8.params[j]? = some t → args[j]? = some v → Value.okWide Try.prog W .any base t v := hval0
  have hW' := hW
  obtain ⟨p, q, hA0, hV, rfl, hfz, hnd⟩ := hW
  have hA : DataW.TrodAll enc Try.prog W 0 (fun _ => true) true Try.f8.params.toList args.toList ds p := hA0
  rw [Try.params8] at hA hval
  obtain ⟨v0, vs0, d0, ds0, p0, q0, hargs, rfl, rfl, h0, r0⟩ := trodAll_cons hA
  obtain ⟨rfl, rfl, rfl⟩ := trodAll_nil r0
  obtain rfl : args = #[v0] := by cases args; simp_all
  obtain ⟨rfl, rfl⟩ := trodVars_none hV
  obtain ⟨a0, rfl, rfl, rfl, w0⟩ := open_string Try.underlying9 (hval 0 9 v0 rfl rfl) h0
  clear hA0 hval0
  simp only [List.append_nil] at hW'
  refine (walk a0 w0 W).mono fun e W' ⟨he, bel⟩ => ?_
  subst he
  exact ⟨_, rfl, _, _, _, [], [], [], hW', trodAll_mk1 (shut_bool Try.underlying4 _), (trodAll_cons_mk (shut_string Try.underlying9 w0) trodAll_mk0), rfl, bel.frame _, fun h => by cases h⟩

theorem over : Rows.fnWithoutExponentHeadIsFinalRow.holds Try.pinned (OpenSpec.ofChange Rows.fnWithoutExponentHeadIsFinalSpec) :=
  OpenClaim.holds_of_wide 8 Try.f8 rfl rfl rfl rfl rfl rfl rfl ⟨rfl, rfl, rfl, rfl, rfl⟩ rfl rfl rfl rfl rfl (by kernel_rfl) Try.func8 (by kernel_rfl)
    (of_decide_eq_true (by kernel_rfl)) (by unfold Func.isWrapper; first | (rw [if_pos (by decide +kernel)]; kernel_rfl) | (rw [if_neg (by decide +kernel)]; exact ⟨rfl, rfl⟩))
    (fun os started H enc _ => lifted os started H enc)

/-- ████ THE STATEMENT ████ -/
theorem proved : Rows.FnWithoutExponentHeadIsFinalSaid :=
  over
end Go.Proofs.Qxb6601839a.fnWithoutExponentHeadIsFinal
