/-
  WALK: zzNumber, from its end on: the last stage (the count).
-/
import Derived.Test.Qxb6602476aNum
namespace Go.Proofs.Qxb6602476a
open Go.RowKit Plain

/-- The number of a code's first region. -/
def headRegion : Code → Option Nat
  | .region k _ _ => some k
  | .seq a _ => headRegion a
  | .block _ c => headRegion c
  | .scope c => headRegion c
  | .loop c => headRegion c
  | _ => none
/-- What a sequence holds from the statement on that begins with region k. -/
def tailAt (k : Nat) : Code → Option Code
  | .seq a b => if headRegion a = some k then some (.seq a b) else tailAt k b
  | _ => none
noncomputable def num53 : Code := ((Try.f18.body.bind (tailAt 53)).getD .skip)

/-- What zzNumber hands back. -/
def NumBack (v : Nat → Nat) (n i : Nat) (e : Ending) : Prop :=
  ∃ (z : Nat) (sz : Int) (ok ex : Bool), e = .returned (.tuple #[.int .i64 z, .int .i64 sz, .bool ok, .bool ex]) ∧ (ok = true → NumRes v n i z sz ex)
theorem numBack_no (v : Nat → Nat) (n i z : Nat) : NumBack v n i (.returned (.tuple #[.int .i64 z, .int .i64 0, .bool false, .bool false])) := ⟨z, 0, false, false, rfl, fun h => by cases h⟩
theorem results_tmp4 {fn : Func} {t u v x : Tmp} (h : fn.results = #[.tmp t, .tmp u, .tmp v, .tmp x]) (tmps : Array Value) (P : Program) (w : World) :
    (results fn tmps).run P w = .ok (.tuple #[tmps.getD t undef, tmps.getD u undef, tmps.getD v undef, tmps.getD x undef]) w := by
  simp [results, h]

set_option maxRecDepth 1000000 in
set_option maxHeartbeats 4000000 in
theorem num_count (b off : Nat) (mm : Option Nat) (n cap : Nat) (hn : n ≤ 2097152) (v : Nat → Nat) (i m p q z lead lead1 : Nat) (neg seen seen1 big : Bool) (X Y : Int) (w : World)
    (hs : SignAt v i m neg) (hi : IntAt v m p lead1 seen1) (hm : MI v m p q lead seen) (hf : FracAt v p q) (hx : Expo v q z Y) (hz : z ≤ n) (hX : big = false → X = Y)
    (u2 u3 u4 u5 u6 u7 u16 u17 u18 u19 u20 u21 u22 u23 u24 u25 u26 u27 u28 u29 u30 u31 u32 u33 u34 u35 u36 u37 u38 u39 u40 u41 u42 u43 u44 u45 u46 u47 u48 u49 u50 u51 u52 u53 u54 u55 u56 u57 u58 u59 u60 u61 u62 u63 u64 u65 u66 u67 u68 u69 u70 u71 u72 u73 u74 u75 u76 u77 u78 u79 u80 u81 u82 u83 u84 u85 u86 u87 u88 u89 u90 u91 u92 u93 u94 u95 u96 u97 u98 u99 u100 u101 u102 u103 u104 u105 u106 u107 u108 u109 u110 u111 u112 u113 u114 u115 u116 u117 u118 u119 u120 u121 u122 u123 u124 u125 u126 u127 u128 u129 u130 u131 u132 u133 u134 u135 u136 u137 u138 u139 u140 u141 u142 u143 u144 u145 u146 u147 u148 u149 u150 u151 u152 u153 u154 u155 u156 u157 u158 u159 u160 u161 u162 u163 u164 u165 u166 u167 u168 u169 u170 u171 u172 u173 u174 u175 u176 u177 u178 u179 u180 u181 u182 u183 u184 u185 u186 u187 u188 u189 u190 u191 u192 u193 u194 u195 u196 u197 u198 u199 u200 u201 u202 u203 u204 u205 u206 u207 u208 u209 u210 u211 u212 u213 u214 u215 u216 u217 u218 : Value) :
    Code.wp Try.prog num53 (bodyPost Try.prog Try.f18 fun e w' => NumBack v n i e ∧ w' = w) ⟨#[.slice (some ⟨b, off, mm⟩) n cap, .int .i64 z, u2, u3, u4, u5, u6, u7, .int .i64 n, .bool neg, .int .i64 ((p - m) + fracOf p q : Nat), .int .i64 lead, .bool seen, .int .i64 (fracOf p q), .int .i64 X, .bool big, u16, u17, u18, u19, u20, u21, u22, u23, u24, u25, u26, u27, u28, u29, u30, u31, u32, u33, u34, u35, u36, u37, u38, u39, u40, u41, u42, u43, u44, u45, u46, u47, u48, u49, u50, u51, u52, u53, u54, u55, u56, u57, u58, u59, u60, u61, u62, u63, u64, u65, u66, u67, u68, u69, u70, u71, u72, u73, u74, u75, u76, u77, u78, u79, u80, u81, u82, u83, u84, u85, u86, u87, u88, u89, u90, u91, u92, u93, u94, u95, u96, u97, u98, u99, u100, u101, u102, u103, u104, u105, u106, u107, u108, u109, u110, u111, u112, u113, u114, u115, u116, u117, u118, u119, u120, u121, u122, u123, u124, u125, u126, u127, u128, u129, u130, u131, u132, u133, u134, u135, u136, u137, u138, u139, u140, u141, u142, u143, u144, u145, u146, u147, u148, u149, u150, u151, u152, u153, u154, u155, u156, u157, u158, u159, u160, u161, u162, u163, u164, u165, u166, u167, u168, u169, u170, u171, u172, u173, u174, u175, u176, u177, u178, u179, u180, u181, u182, u183, u184, u185, u186, u187, u188, u189, u190, u191, u192, u193, u194, u195, u196, u197, u198, u199, u200, u201, u202, u203, u204, u205, u206, u207, u208, u209, u210, u211, u212, u213, u214, u215, u216, u217, u218], []⟩ w := by
  conv => arg 2; whnf
  cases big with
  | true =>
    have H : Hid (NumRes v n i z 0 false) := numRes_big hs hi hm hf hx hz
    clear hs hi hm hf hx hX
    go_wp2
    (try simp only [Exit.inBlock, Exit.then]); refine bodyPost_ret (results_tmp4 rfl _ _ _) rfl ?_
    exact ⟨⟨z, 0, true, false, rfl, fun _ => H.out⟩, rfl⟩
  | false =>
    obtain rfl := hX rfl
    have H : Hid (∀ sz, sz = NS neg seen (p - m) (fracOf p q) lead X → NumRes v n i z sz true) := fun sz h => numRes_ex hn hs hi hm hf hx hz h
    have hl := hm.lead_le hi.1 hf
    have hab := hx.abs
    have hmp := hi.1
    have hq : p ≤ q := by unfold FracAt at hf; omega
    have hfr : fracOf p q ≤ n := by unfold fracOf; omega
    have hint : p - m ≤ n := by omega
    clear hs hi hm hf hx hX hmp hq
    obtain ⟨F, hF⟩ : ∃ F, fracOf p q = F := ⟨_, rfl⟩
    obtain ⟨I, hI⟩ : ∃ I, p - m = I := ⟨_, rfl⟩
    rw [hF, hI] at hl H
    rw [hF] at hfr
    rw [hI] at hint
    rw [hF, hI]
    clear hF hI
    cases seen with
    | true =>
      have h1 : (lead : Int) < I + F := by have := hl.2.1 rfl; omega
      clear hl
      cases neg
      all_goals
        go_wp2
        all_goals
          (try simp only [Exit.inBlock, Exit.then]); refine bodyPost_ret (results_tmp4 rfl _ _ _) rfl ?_
          refine ⟨⟨z, _, true, true, rfl, fun _ => H.out _ ?_⟩, rfl⟩
          unfold NS
          simp only [true_and, and_true, if_true, Bool.false_eq_true, if_false]
          repeat' split
          all_goals omega
    | false =>
      have h1 : (lead : Int) = I + F := by
        have h2 : ¬ lead < I + F := fun h => (by have := hl.2.2 h; cases this)
        have := hl.1
        omega
      have hle : lead ≤ 4194304 := by omega
      have Hle : Hid ((lead : Int) = I + F) := h1
      have h2 : ¬ (0 : Int) < I + F - lead := by omega
      clear hl h1
      cases neg
      all_goals
        go_wp2
        all_goals
          (try simp only [Exit.inBlock, Exit.then]); refine bodyPost_ret (results_tmp4 rfl _ _ _) rfl ?_
          refine ⟨⟨z, _, true, true, rfl, fun _ => H.out _ ?_⟩, rfl⟩
          unfold NS
          simp only [if_false, Bool.false_eq_true, false_and, and_false]
          repeat' split
          all_goals omega

end Go.Proofs.Qxb6602476a
