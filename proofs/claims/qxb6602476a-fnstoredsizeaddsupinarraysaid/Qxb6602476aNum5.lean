/-
  WALK: zzNumber, the exponent and what follows.
-/
import Derived.Test.Qxb6602476aNum4
namespace Go.Proofs.Qxb6602476a
open Go.RowKit Plain

noncomputable def num33 : Code := ((Try.f18.body.bind (tailAt 33)).getD .skip)
theorem cell_succ {w : World} {b off k : Nat} {m : Option Nat} {x : Option Value} (h : w.cell? ((⟨b, off, m⟩ : Addr).add (k + 1)) = x) : w.cell? ⟨b, off + (k + 1), none⟩ = x := h
theorem num_step {v : Nat → Nat} {m j : Nat} (h : ∀ k, m ≤ k → k < j → Dg (v k)) (hd : Dg (v j)) : ∀ k, m ≤ k → k < j + 1 → Dg (v k) := fun k h1 h2 => by
  rcases Nat.lt_or_ge k j with h3 | h3
  · exact h k h1 h3
  · obtain rfl : k = j := by omega
    exact hd
theorem u8_sub (x : Nat) (h : Dg x) : IntKind.u8.wrap ((x : Int) - 48) = ((x - 48 : Nat) : Int) := by
  unfold Dg at h
  have e : (x : Int) - 48 = ((x - 48 : Nat) : Int) := by omega
  rw [e]
  have : x - 48 ≤ 9 := by omega
  generalize x - 48 = d at this ⊢
  match d, this with
  | 0, _ | 1, _ | 2, _ | 3, _ | 4, _ | 5, _ | 6, _ | 7, _ | 8, _ | 9, _ => decide
/-- Where the exponent's digits begin. -/
def ExpHead (v : Nat → Nat) (q z0 : Nat) (eneg : Bool) : Prop := (z0 = q + 1 ∧ eneg = false) ∨ (z0 = q + 2 ∧ v (q + 1) = 43 ∧ eneg = false) ∨ (z0 = q + 2 ∧ v (q + 1) = 45 ∧ eneg = true)
theorem ExpHead.expo {v : Nat → Nat} {q z0 z : Nat} {eneg : Bool} (h : ExpHead v q z0 eneg) (he : v q = 101 ∨ v q = 69) (hz : z0 < z) (hd : ∀ k, z0 ≤ k → k < z → Dg (v k)) : Expo v q z (if eneg = true then -(clampE v z0 (z - z0) : Int) else clampE v z0 (z - z0)) := by
  rcases h with ⟨rfl, rfl⟩ | ⟨rfl, h1, rfl⟩ | ⟨rfl, h1, rfl⟩
  · simpa using Expo.plain he hz hd
  · simpa using Expo.plus he h1 hz hd
  · simpa using Expo.minus he h1 hz hd

/-- The way behind the test in slot k. -/
def thenAt (k : Nat) : Code → Option Code
  | .cond (.tmp j) a b => if j = k then some a else match thenAt k a with
    | some c => some c
    | none => thenAt k b
  | .seq a b => match thenAt k a with
    | some c => some c
    | none => thenAt k b
  | .block _ c => thenAt k c
  | .scope c => thenAt k c
  | .loop c => thenAt k c
  | _ => none
noncomputable def num36 : Code := ((Try.f18.body.bind (thenAt 130)).getD .skip)
noncomputable def num41 : Code := (((Try.f18.body.bind (thenAt 130)).bind (tailAt 41)).getD .skip)

set_option maxRecDepth 1000000 in
set_option maxHeartbeats 4000000 in
theorem exp_digits (b off : Nat) (mm : Option Nat) (n cap : Nat) (hn : n ≤ 2097152) (v : Nat → Nat) (i q : Nat) (w : World) (HC : Hid (∀ i, i < n → w.cell? ((⟨b, off, mm⟩ : Addr).add i) = some (.int .u8 (v i)))) (z0 : Nat) (eneg : Bool)
    (HE : Hid (v q = 101 ∨ v q = 69)) (HH : Hid (ExpHead v q z0 eneg)) (hz0 : z0 ≤ n) (K : Act → World → Prop) (c2 c3 c4 c5 c6 c7 c9 c10 c11 c12 c13 c17 c18 c19 c20 c21 c22 c23 c24 c25 c26 c27 c28 c29 c30 c31 c32 c33 c34 c35 c36 c37 c38 c39 c40 c41 c42 c43 c44 c45 c46 c47 c48 c49 c50 c51 c52 c53 c54 c55 c56 c57 c58 c59 c60 c61 c62 c63 c64 c65 c66 c67 c68 c69 c70 c71 c72 c73 c74 c75 c76 c77 c78 c79 c80 c81 c82 c83 c84 c85 c86 c87 c88 c89 c90 c91 c92 c93 c94 c95 c96 c97 c98 c99 c100 c101 c102 c103 c104 c105 c106 c107 c108 c109 c110 c111 c112 c113 c114 c115 c116 c117 c118 c119 c120 c121 c122 c123 c124 c125 c126 c127 c128 c129 c130 c131 c132 c133 c134 c135 c136 c137 c138 c139 c140 c141 c142 c143 c144 c145 c146 c147 c148 c149 c150 c151 c152 c153 c154 c155 c156 c157 c158 c159 c160 c161 c162 c163 c164 c165 c166 c167 c168 c169 c170 c171 c172 c173 c174 c175 c176 c177 c178 c179 c180 c181 c182 c183 c184 c185 c186 c187 c188 c189 c190 c191 c192 c193 c194 c195 c196 c197 c198 c199 c200 c201 c202 c203 c204 c205 c206 c207 c208 c209 c210 c211 c212 c213 c214 c215 c216 c217 c218 : Value)
    (HK : Hid (∀ (z : Nat) (vz : Value) (X Y : Int) (big : Bool) (u16 u17 u18 u19 u20 u21 u22 u23 u24 u25 u26 u27 u28 u29 u30 u31 u32 u33 u34 u35 u36 u37 u38 u39 u40 u41 u42 u43 u44 u45 u46 u47 u48 u49 u50 u51 u52 u53 u54 u55 u56 u57 u58 u59 u60 u61 u62 u63 u64 u65 u66 u67 u68 u69 u70 u71 u72 u73 u74 u75 u76 u77 u78 u79 u80 u81 u82 u83 u84 u85 u86 u87 u88 u89 u90 u91 u92 u93 u94 u95 u96 u97 u98 u99 u100 u101 u102 u103 u104 u105 u106 u107 u108 u109 u110 u111 u112 u113 u114 u115 u116 u117 u118 u119 u120 u121 u122 u123 u124 u125 u126 u127 u128 u129 u130 u131 u132 u133 u134 u135 u136 u137 u138 u139 u140 u141 u142 u143 u144 u145 u146 u147 u148 u149 u150 u151 u152 u153 u154 u155 u156 u157 u158 u159 u160 u161 u162 u163 u164 u165 u166 u167 u168 u169 u170 u171 u172 u173 u174 u175 u176 u177 u178 u179 u180 u181 u182 u183 u184 u185 u186 u187 u188 u189 u190 u191 u192 u193 u194 u195 u196 u197 u198 u199 u200 u201 u202 u203 u204 u205 u206 u207 u208 u209 u210 u211 u212 u213 u214 u215 u216 u217 u218 : Value), vz = .int .i64 z → Expo v q z Y → z ≤ n → (big = false → X = Y) → K ⟨#[.slice (some ⟨b, off, mm⟩) n cap, vz, c2, c3, c4, c5, c6, c7, .int .i64 n, c9, c10, c11, c12, c13, .int .i64 X, .bool big, u16, u17, u18, u19, u20, u21, u22, u23, u24, u25, u26, u27, u28, u29, u30, u31, u32, u33, u34, u35, u36, u37, u38, u39, u40, u41, u42, u43, u44, u45, u46, u47, u48, u49, u50, u51, u52, u53, u54, u55, u56, u57, u58, u59, u60, u61, u62, u63, u64, u65, u66, u67, u68, u69, u70, u71, u72, u73, u74, u75, u76, u77, u78, u79, u80, u81, u82, u83, u84, u85, u86, u87, u88, u89, u90, u91, u92, u93, u94, u95, u96, u97, u98, u99, u100, u101, u102, u103, u104, u105, u106, u107, u108, u109, u110, u111, u112, u113, u114, u115, u116, u117, u118, u119, u120, u121, u122, u123, u124, u125, u126, u127, u128, u129, u130, u131, u132, u133, u134, u135, u136, u137, u138, u139, u140, u141, u142, u143, u144, u145, u146, u147, u148, u149, u150, u151, u152, u153, u154, u155, u156, u157, u158, u159, u160, u161, u162, u163, u164, u165, u166, u167, u168, u169, u170, u171, u172, u173, u174, u175, u176, u177, u178, u179, u180, u181, u182, u183, u184, u185, u186, u187, u188, u189, u190, u191, u192, u193, u194, u195, u196, u197, u198, u199, u200, u201, u202, u203, u204, u205, u206, u207, u208, u209, u210, u211, u212, u213, u214, u215, u216, u217, u218], []⟩ w)) :
    Code.wp Try.prog num41 (Exit.then K (bodyPost Try.prog Try.f18 fun e w' => NumBack v n i e ∧ w' = w)) ⟨#[.slice (some ⟨b, off, mm⟩) n cap, .int .i64 z0, c2, c3, c4, c5, c6, c7, .int .i64 n, c9, c10, c11, c12, c13, .int .i64 0, .bool false, .bool eneg, c17, c18, c19, c20, c21, c22, c23, c24, c25, c26, c27, c28, c29, c30, c31, c32, c33, c34, c35, c36, c37, c38, c39, c40, c41, c42, c43, c44, c45, c46, c47, c48, c49, c50, c51, c52, c53, c54, c55, c56, c57, c58, c59, c60, c61, c62, c63, c64, c65, c66, c67, c68, c69, c70, c71, c72, c73, c74, c75, c76, c77, c78, c79, c80, c81, c82, c83, c84, c85, c86, c87, c88, c89, c90, c91, c92, c93, c94, c95, c96, c97, c98, c99, c100, c101, c102, c103, c104, c105, c106, c107, c108, c109, c110, c111, c112, c113, c114, c115, c116, c117, c118, c119, c120, c121, c122, c123, c124, c125, c126, c127, c128, c129, c130, c131, c132, c133, c134, c135, c136, c137, c138, c139, c140, c141, c142, c143, c144, c145, c146, c147, c148, c149, c150, c151, c152, c153, c154, c155, c156, c157, c158, c159, c160, c161, c162, c163, c164, c165, c166, c167, c168, c169, c170, c171, c172, c173, c174, c175, c176, c177, c178, c179, c180, c181, c182, c183, c184, c185, c186, c187, c188, c189, c190, c191, c192, c193, c194, c195, c196, c197, c198, c199, c200, c201, c202, c203, c204, c205, c206, c207, c208, c209, c210, c211, c212, c213, c214, c215, c216, c217, c218], []⟩ w := by
  conv => arg 2; whnf
  go_wp2
  go_loopg [1, 14, 15, 17] (n - z0) (fun g s1 s14 s15 s17 wr => ∃ (j x : Nat) (big : Bool), s1 = .int .i64 j ∧ s14 = .int .i64 x ∧ s15 = .bool big ∧ s17 = .int .i64 (j - z0 : Nat) ∧ j + g = n ∧ z0 ≤ j ∧ x ≤ 20000000000 ∧ (big = false → x = clampE v z0 (j - z0)) ∧ (∀ k, z0 ≤ k → k < j → Dg (v k)) ∧ wr = w)
  case atStart => exact ⟨z0, 0, false, rfl, rfl, rfl, by rw [Nat.sub_self]; rfl, by omega, by omega, by omega, fun _ => by rw [Nat.sub_self]; rfl, fun k h1 h2 => by omega, rfl⟩
  case round =>
    obtain ⟨j, x, big, rfl, rfl, rfl, rfl, hjg, hzj, hx9, hcl, hdj, hwr⟩ := hrel
    subst hwr
    have HL : Hid (big = false → x = clampE v z0 (j - z0)) := hcl
    have HD : Hid (∀ k, z0 ≤ k → k < j → Dg (v k)) := hdj
    clear hcl hdj
    by_cases hj : j < n
    · have hcj := HC.out j hj
      obtain ⟨c, hc⟩ : ∃ c, v j = c := ⟨_, rfl⟩
      rw [hc] at hcj
      have Hc : Hid (v j = c) := hc
      clear hc
      by_cases hd : Dg c
      · have Hd : Hid (Dg c) := hd
        have HD2 : Hid (∀ k, z0 ≤ k → k < j + 1 → Dg (v k)) := num_step HD.out (by rw [Hc.out]; exact hd)
        have hsub := u8_sub c hd
        have hd9 : c - 48 ≤ 9 := by unfold Dg at hd; omega
        have ej : j + 1 - z0 = (j - z0) + 1 := by omega
        have Ej : Hid (j + 1 - z0 = (j - z0) + 1) := ej
        clear hd ej
        cases big with
        | true =>
          go_wp2_with (go_at_call 12; refine (zzIsDigit_yes c Hd.out _).mono ?_; rintro e w' ⟨rfl, hw'⟩; subst hw')
          go_roundg (n - (j + 1))
          case measure => omega
          case rel => exact ⟨j + 1, x, true, by go_num, rfl, rfl, by go_num, by omega, by omega, hx9, fun h => (by cases h), HD2.out, rfl⟩
        | false =>
          have hx1 : x ≤ 1073741824 := by rw [HL.out rfl]; exact clampE_le _ _ _
          obtain ⟨d, hd⟩ : ∃ d, c - 48 = d := ⟨_, rfl⟩
          rw [hd] at hsub hd9
          have Hcd : Hid (c - 48 = d) := hd
          clear hd
          by_cases hbig : x * 10 + d ≤ 1073741824
          · have HL2 : Hid (x * 10 + d = clampE v z0 (j + 1 - z0)) := by
              have := clampE_small (d := c) (HL.out rfl) (by rw [show z0 + (j - z0) = j by omega]; exact Hc.out) (by rw [Hcd.out]; exact hbig)
              rw [Hcd.out] at this
              rw [Ej.out]; exact this
            have hb1 : ¬ (1073741824 : Int) < x * 10 + d := by omega
            clear hbig HL
            go_wp2_with (go_at_call 12; refine (zzIsDigit_yes c Hd.out _).mono ?_; rintro e w' ⟨rfl, hw'⟩; subst hw')
            go_roundg (n - (j + 1))
            case measure => omega
            case rel => exact ⟨j + 1, x * 10 + d, false, by go_num, by go_num, rfl, by go_num, by omega, by omega, by omega, fun _ => HL2.out, HD2.out, rfl⟩
          · have hb1 : (1073741824 : Int) < x * 10 + d := by omega
            clear hbig HL
            go_wp2_with (go_at_call 12; refine (zzIsDigit_yes c Hd.out _).mono ?_; rintro e w' ⟨rfl, hw'⟩; subst hw')
            go_roundg (n - (j + 1))
            case measure => omega
            case rel => exact ⟨j + 1, x * 10 + d, true, by go_num, by go_num, rfl, by go_num, by omega, by omega, by omega, fun h => (by cases h), HD2.out, rfl⟩
      · have Hd : Hid (¬ Dg c) := hd
        clear hd
        by_cases hjz : j = z0
        · subst hjz
          have e0 : (((j - j : Nat) : Int) == 0) = true := by rw [Nat.sub_self]; rfl
          go_wp2_with (go_at_call 12; refine (zzIsDigit_no c Hd.out _).mono ?_; rintro e w' ⟨rfl, hw'⟩; subst hw')
          (try simp only [Exit.inBlock, Exit.then]); refine bodyPost_ret (results_tmp4 rfl _ _ _) rfl ?_
          exact ⟨numBack_no v n i j, rfl⟩
        · have e0 : (((j - z0 : Nat) : Int) == 0) = false := by rw [beq_eq_false_iff_ne]; omega
          have HX : Hid (Expo v q j _) := HH.out.expo HE.out (by omega) HD.out
          cases eneg
          · go_wp2_with (go_at_call 12; refine (zzIsDigit_no c Hd.out _).mono ?_; rintro e w' ⟨rfl, hw'⟩; subst hw')
            exact HK.out j _ _ _ big _ _ _ _ _ _ _ _ _ _ _ _ _ _ _ _ _ _ _ _ _ _ _ _ _ _ _ _ _ _ _ _ _ _ _ _ _ _ _ _ _ _ _ _ _ _ _ _ _ _ _ _ _ _ _ _ _ _ _ _ _ _ _ _ _ _ _ _ _ _ _ _ _ _ _ _ _ _ _ _ _ _ _ _ _ _ _ _ _ _ _ _ _ _ _ _ _ _ _ _ _ _ _ _ _ _ _ _ _ _ _ _ _ _ _ _ _ _ _ _ _ _ _ _ _ _ _ _ _ _ _ _ _ _ _ _ _ _ _ _ _ _ _ _ _ _ _ _ _ _ _ _ _ _ _ _ _ _ _ _ _ _ _ _ _ _ _ _ _ _ _ _ _ _ _ _ _ _ _ _ _ _ _ _ _ _ _ _ _ _ _ _ _ _ _ _ _ _ _ _ _ _ _ rfl HX.out (by omega) (fun h => (by rw [HL.out h]; rfl))
          · go_wp2_with (go_at_call 12; refine (zzIsDigit_no c Hd.out _).mono ?_; rintro e w' ⟨rfl, hw'⟩; subst hw')
            exact HK.out j _ _ _ big _ _ _ _ _ _ _ _ _ _ _ _ _ _ _ _ _ _ _ _ _ _ _ _ _ _ _ _ _ _ _ _ _ _ _ _ _ _ _ _ _ _ _ _ _ _ _ _ _ _ _ _ _ _ _ _ _ _ _ _ _ _ _ _ _ _ _ _ _ _ _ _ _ _ _ _ _ _ _ _ _ _ _ _ _ _ _ _ _ _ _ _ _ _ _ _ _ _ _ _ _ _ _ _ _ _ _ _ _ _ _ _ _ _ _ _ _ _ _ _ _ _ _ _ _ _ _ _ _ _ _ _ _ _ _ _ _ _ _ _ _ _ _ _ _ _ _ _ _ _ _ _ _ _ _ _ _ _ _ _ _ _ _ _ _ _ _ _ _ _ _ _ _ _ _ _ _ _ _ _ _ _ _ _ _ _ _ _ _ _ _ _ _ _ _ _ _ _ _ _ _ _ _ rfl HX.out (by omega) (fun h => (by rw [HL.out h]; rfl))
    · by_cases hjz : j = z0
      · subst hjz
        have e0 : (((j - j : Nat) : Int) == 0) = true := by rw [Nat.sub_self]; rfl
        go_wp2
        (try simp only [Exit.inBlock, Exit.then]); refine bodyPost_ret (results_tmp4 rfl _ _ _) rfl ?_
        exact ⟨numBack_no v n i j, rfl⟩
      · have e0 : (((j - z0 : Nat) : Int) == 0) = false := by rw [beq_eq_false_iff_ne]; omega
        have HX : Hid (Expo v q j _) := HH.out.expo HE.out (by omega) HD.out
        cases eneg
        · go_wp2
          exact HK.out j _ _ _ big _ _ _ _ _ _ _ _ _ _ _ _ _ _ _ _ _ _ _ _ _ _ _ _ _ _ _ _ _ _ _ _ _ _ _ _ _ _ _ _ _ _ _ _ _ _ _ _ _ _ _ _ _ _ _ _ _ _ _ _ _ _ _ _ _ _ _ _ _ _ _ _ _ _ _ _ _ _ _ _ _ _ _ _ _ _ _ _ _ _ _ _ _ _ _ _ _ _ _ _ _ _ _ _ _ _ _ _ _ _ _ _ _ _ _ _ _ _ _ _ _ _ _ _ _ _ _ _ _ _ _ _ _ _ _ _ _ _ _ _ _ _ _ _ _ _ _ _ _ _ _ _ _ _ _ _ _ _ _ _ _ _ _ _ _ _ _ _ _ _ _ _ _ _ _ _ _ _ _ _ _ _ _ _ _ _ _ _ _ _ _ _ _ _ _ _ _ _ _ _ _ _ _ rfl HX.out (by omega) (fun h => (by rw [HL.out h]; rfl))
        · go_wp2
          exact HK.out j _ _ _ big _ _ _ _ _ _ _ _ _ _ _ _ _ _ _ _ _ _ _ _ _ _ _ _ _ _ _ _ _ _ _ _ _ _ _ _ _ _ _ _ _ _ _ _ _ _ _ _ _ _ _ _ _ _ _ _ _ _ _ _ _ _ _ _ _ _ _ _ _ _ _ _ _ _ _ _ _ _ _ _ _ _ _ _ _ _ _ _ _ _ _ _ _ _ _ _ _ _ _ _ _ _ _ _ _ _ _ _ _ _ _ _ _ _ _ _ _ _ _ _ _ _ _ _ _ _ _ _ _ _ _ _ _ _ _ _ _ _ _ _ _ _ _ _ _ _ _ _ _ _ _ _ _ _ _ _ _ _ _ _ _ _ _ _ _ _ _ _ _ _ _ _ _ _ _ _ _ _ _ _ _ _ _ _ _ _ _ _ _ _ _ _ _ _ _ _ _ _ _ _ _ _ _ rfl HX.out (by omega) (fun h => (by rw [HL.out h]; rfl))

set_option maxRecDepth 1000000 in
set_option maxHeartbeats 4000000 in
theorem exp_head (b off : Nat) (mm : Option Nat) (n cap : Nat) (hn : n ≤ 2097152) (v : Nat → Nat) (i q : Nat) (w : World) (HC : Hid (∀ i, i < n → w.cell? ((⟨b, off, mm⟩ : Addr).add i) = some (.int .u8 (v i)))) (hq : q < n)
    (HE : Hid (v q = 101 ∨ v q = 69)) (K : Act → World → Prop) (c2 c3 c4 c5 c6 c7 c9 c10 c11 c12 c13 c16 c17 c18 c19 c20 c21 c22 c23 c24 c25 c26 c27 c28 c29 c30 c31 c32 c33 c34 c35 c36 c37 c38 c39 c40 c41 c42 c43 c44 c45 c46 c47 c48 c49 c50 c51 c52 c53 c54 c55 c56 c57 c58 c59 c60 c61 c62 c63 c64 c65 c66 c67 c68 c69 c70 c71 c72 c73 c74 c75 c76 c77 c78 c79 c80 c81 c82 c83 c84 c85 c86 c87 c88 c89 c90 c91 c92 c93 c94 c95 c96 c97 c98 c99 c100 c101 c102 c103 c104 c105 c106 c107 c108 c109 c110 c111 c112 c113 c114 c115 c116 c117 c118 c119 c120 c121 c122 c123 c124 c125 c126 c127 c128 c129 c130 c131 c132 c133 c134 c135 c136 c137 c138 c139 c140 c141 c142 c143 c144 c145 c146 c147 c148 c149 c150 c151 c152 c153 c154 c155 c156 c157 c158 c159 c160 c161 c162 c163 c164 c165 c166 c167 c168 c169 c170 c171 c172 c173 c174 c175 c176 c177 c178 c179 c180 c181 c182 c183 c184 c185 c186 c187 c188 c189 c190 c191 c192 c193 c194 c195 c196 c197 c198 c199 c200 c201 c202 c203 c204 c205 c206 c207 c208 c209 c210 c211 c212 c213 c214 c215 c216 c217 c218 : Value)
    (HK : Hid (∀ (z : Nat) (vz : Value) (X Y : Int) (big : Bool) (u16 u17 u18 u19 u20 u21 u22 u23 u24 u25 u26 u27 u28 u29 u30 u31 u32 u33 u34 u35 u36 u37 u38 u39 u40 u41 u42 u43 u44 u45 u46 u47 u48 u49 u50 u51 u52 u53 u54 u55 u56 u57 u58 u59 u60 u61 u62 u63 u64 u65 u66 u67 u68 u69 u70 u71 u72 u73 u74 u75 u76 u77 u78 u79 u80 u81 u82 u83 u84 u85 u86 u87 u88 u89 u90 u91 u92 u93 u94 u95 u96 u97 u98 u99 u100 u101 u102 u103 u104 u105 u106 u107 u108 u109 u110 u111 u112 u113 u114 u115 u116 u117 u118 u119 u120 u121 u122 u123 u124 u125 u126 u127 u128 u129 u130 u131 u132 u133 u134 u135 u136 u137 u138 u139 u140 u141 u142 u143 u144 u145 u146 u147 u148 u149 u150 u151 u152 u153 u154 u155 u156 u157 u158 u159 u160 u161 u162 u163 u164 u165 u166 u167 u168 u169 u170 u171 u172 u173 u174 u175 u176 u177 u178 u179 u180 u181 u182 u183 u184 u185 u186 u187 u188 u189 u190 u191 u192 u193 u194 u195 u196 u197 u198 u199 u200 u201 u202 u203 u204 u205 u206 u207 u208 u209 u210 u211 u212 u213 u214 u215 u216 u217 u218 : Value), vz = .int .i64 z → Expo v q z Y → z ≤ n → (big = false → X = Y) → K ⟨#[.slice (some ⟨b, off, mm⟩) n cap, vz, c2, c3, c4, c5, c6, c7, .int .i64 n, c9, c10, c11, c12, c13, .int .i64 X, .bool big, u16, u17, u18, u19, u20, u21, u22, u23, u24, u25, u26, u27, u28, u29, u30, u31, u32, u33, u34, u35, u36, u37, u38, u39, u40, u41, u42, u43, u44, u45, u46, u47, u48, u49, u50, u51, u52, u53, u54, u55, u56, u57, u58, u59, u60, u61, u62, u63, u64, u65, u66, u67, u68, u69, u70, u71, u72, u73, u74, u75, u76, u77, u78, u79, u80, u81, u82, u83, u84, u85, u86, u87, u88, u89, u90, u91, u92, u93, u94, u95, u96, u97, u98, u99, u100, u101, u102, u103, u104, u105, u106, u107, u108, u109, u110, u111, u112, u113, u114, u115, u116, u117, u118, u119, u120, u121, u122, u123, u124, u125, u126, u127, u128, u129, u130, u131, u132, u133, u134, u135, u136, u137, u138, u139, u140, u141, u142, u143, u144, u145, u146, u147, u148, u149, u150, u151, u152, u153, u154, u155, u156, u157, u158, u159, u160, u161, u162, u163, u164, u165, u166, u167, u168, u169, u170, u171, u172, u173, u174, u175, u176, u177, u178, u179, u180, u181, u182, u183, u184, u185, u186, u187, u188, u189, u190, u191, u192, u193, u194, u195, u196, u197, u198, u199, u200, u201, u202, u203, u204, u205, u206, u207, u208, u209, u210, u211, u212, u213, u214, u215, u216, u217, u218], []⟩ w)) :
    Code.wp Try.prog num36 (Exit.then K (bodyPost Try.prog Try.f18 fun e w' => NumBack v n i e ∧ w' = w)) ⟨#[.slice (some ⟨b, off, mm⟩) n cap, .int .i64 q, c2, c3, c4, c5, c6, c7, .int .i64 n, c9, c10, c11, c12, c13, .int .i64 0, .bool false, c16, c17, c18, c19, c20, c21, c22, c23, c24, c25, c26, c27, c28, c29, c30, c31, c32, c33, c34, c35, c36, c37, c38, c39, c40, c41, c42, c43, c44, c45, c46, c47, c48, c49, c50, c51, c52, c53, c54, c55, c56, c57, c58, c59, c60, c61, c62, c63, c64, c65, c66, c67, c68, c69, c70, c71, c72, c73, c74, c75, c76, c77, c78, c79, c80, c81, c82, c83, c84, c85, c86, c87, c88, c89, c90, c91, c92, c93, c94, c95, c96, c97, c98, c99, c100, c101, c102, c103, c104, c105, c106, c107, c108, c109, c110, c111, c112, c113, c114, c115, c116, c117, c118, c119, c120, c121, c122, c123, c124, c125, c126, c127, c128, c129, c130, c131, c132, c133, c134, c135, c136, c137, c138, c139, c140, c141, c142, c143, c144, c145, c146, c147, c148, c149, c150, c151, c152, c153, c154, c155, c156, c157, c158, c159, c160, c161, c162, c163, c164, c165, c166, c167, c168, c169, c170, c171, c172, c173, c174, c175, c176, c177, c178, c179, c180, c181, c182, c183, c184, c185, c186, c187, c188, c189, c190, c191, c192, c193, c194, c195, c196, c197, c198, c199, c200, c201, c202, c203, c204, c205, c206, c207, c208, c209, c210, c211, c212, c213, c214, c215, c216, c217, c218], []⟩ w := by
  conv => arg 2; whnf
  go_upto_region 38 with fail
  go_cut [149] from 22 (fun s149 w1 => ∃ t : Bool, s149 = .bool t ∧ (t = true → q + 1 < n ∧ (v (q + 1) = 43 ∨ v (q + 1) = 45)) ∧ w1 = w)
  case first =>
    by_cases hq1 : q + 1 < n
    · have hcq := cell_succ (HC.out (q + 1) hq1)
      by_cases h1 : v (q + 1) = 43
      · have H1 : Hid (v (q + 1) = 43) := h1
        rw [h1] at hcq
        clear h1
        go_wp2
        go_meet
        case rel => exact ⟨true, rfl, fun _ => ⟨hq1, Or.inl H1.out⟩, rfl⟩
      · by_cases h2 : v (q + 1) = 45
        · have H1 : Hid (v (q + 1) = 45) := h2
          rw [h2] at hcq
          clear h1 h2
          go_wp2
          go_meet
          case rel => exact ⟨true, rfl, fun _ => ⟨hq1, Or.inr H1.out⟩, rfl⟩
        · obtain ⟨x, hx⟩ : ∃ x, v (q + 1) = x := ⟨_, rfl⟩
          rw [hx] at hcq h1 h2
          have e1 : ((x : Int) == 43) = false := by rw [beq_eq_false_iff_ne]; omega
          have e2 : ((x : Int) == 45) = false := by rw [beq_eq_false_iff_ne]; omega
          clear h1 h2 hx
          go_wp2
          go_meet
          case rel => exact ⟨false, rfl, fun h => (by cases h), rfl⟩
    · go_wp2
      go_meet
      case rel => exact ⟨false, rfl, fun h => (by cases h), rfl⟩
  case rest =>
    obtain ⟨t, rfl, ht, hwc⟩ := hcut
    subst hwc
    have HT : Hid (t = true → q + 1 < n ∧ (v (q + 1) = 43 ∨ v (q + 1) = 45)) := ht
    clear ht
    go_upto_if 149 with fail
    go_cut [1, 16] from 22 (fun s1 s16 w1 => ∃ (z0 : Nat) (eneg : Bool), s1 = .int .i64 z0 ∧ s16 = .bool eneg ∧ ExpHead v q z0 eneg ∧ z0 ≤ n ∧ w1 = wc)
    case first =>
      cases t with
      | false =>
        go_wp2
        go_meet
        case rel => exact ⟨q + 1, false, by go_num, rfl, Or.inl ⟨rfl, rfl⟩, by omega, rfl⟩
      | true =>
        obtain ⟨hq1, hs⟩ := HT.out (by trivial)
        have hcq := cell_succ (HC.out (q + 1) hq1)
        rcases hs with h1 | h1
        · have H1 : Hid (v (q + 1) = 43) := h1
          rw [h1] at hcq
          clear h1 HT
          go_wp2
          go_meet
          case rel => exact ⟨q + 2, false, by go_num, rfl, Or.inr (Or.inl ⟨rfl, H1.out, rfl⟩), by omega, rfl⟩
        · have H1 : Hid (v (q + 1) = 45) := h1
          rw [h1] at hcq
          clear h1 HT
          go_wp2
          go_meet
          case rel => exact ⟨q + 2, true, by go_num, rfl, Or.inr (Or.inr ⟨rfl, H1.out, rfl⟩), by omega, rfl⟩
    case rest =>
      obtain ⟨z0, eneg, rfl, rfl, hh, hz0, hwc⟩ := hcut
      subst hwc
      have HH : Hid (ExpHead v q z0 eneg) := hh
      clear hh HT
      refine (by assumption : ∀ a w, Code.wp _ _ _ a w → _) _ _ ?_
      exact exp_digits b off mm n cap hn v i q _ HC z0 eneg HE HH hz0 K _ _ _ _ _ _ _ _ _ _ _ _ _ _ _ _ _ _ _ _ _ _ _ _ _ _ _ _ _ _ _ _ _ _ _ _ _ _ _ _ _ _ _ _ _ _ _ _ _ _ _ _ _ _ _ _ _ _ _ _ _ _ _ _ _ _ _ _ _ _ _ _ _ _ _ _ _ _ _ _ _ _ _ _ _ _ _ _ _ _ _ _ _ _ _ _ _ _ _ _ _ _ _ _ _ _ _ _ _ _ _ _ _ _ _ _ _ _ _ _ _ _ _ _ _ _ _ _ _ _ _ _ _ _ _ _ _ _ _ _ _ _ _ _ _ _ _ _ _ _ _ _ _ _ _ _ _ _ _ _ _ _ _ _ _ _ _ _ _ _ _ _ _ _ _ _ _ _ _ _ _ _ _ _ _ _ _ _ _ _ _ _ _ _ _ _ _ _ _ _ _ _ _ _ _ _ _ _ _ _ _ _ _ HK

set_option maxRecDepth 1000000 in
set_option maxHeartbeats 4000000 in
theorem num_exp (b off : Nat) (mm : Option Nat) (n cap : Nat) (hn : n ≤ 2097152) (v : Nat → Nat) (i m p q lead lead1 : Nat) (neg seen seen1 : Bool) (w : World)
    (HC : Hid (∀ i, i < n → w.cell? ((⟨b, off, mm⟩ : Addr).add i) = some (.int .u8 (v i))))
    (HS : Hid (SignAt v i m neg)) (HI : Hid (IntAt v m p lead1 seen1)) (HJ : Hid (MI v m p q lead seen)) (HF : Hid (FracAt v p q)) (hqn : q ≤ n)
    (u2 u3 u4 u5 u6 u7 u14 u15 u16 u17 u18 u19 u20 u21 u22 u23 u24 u25 u26 u27 u28 u29 u30 u31 u32 u33 u34 u35 u36 u37 u38 u39 u40 u41 u42 u43 u44 u45 u46 u47 u48 u49 u50 u51 u52 u53 u54 u55 u56 u57 u58 u59 u60 u61 u62 u63 u64 u65 u66 u67 u68 u69 u70 u71 u72 u73 u74 u75 u76 u77 u78 u79 u80 u81 u82 u83 u84 u85 u86 u87 u88 u89 u90 u91 u92 u93 u94 u95 u96 u97 u98 u99 u100 u101 u102 u103 u104 u105 u106 u107 u108 u109 u110 u111 u112 u113 u114 u115 u116 u117 u118 u119 u120 u121 u122 u123 u124 u125 u126 u127 u128 u129 u130 u131 u132 u133 u134 u135 u136 u137 u138 u139 u140 u141 u142 u143 u144 u145 u146 u147 u148 u149 u150 u151 u152 u153 u154 u155 u156 u157 u158 u159 u160 u161 u162 u163 u164 u165 u166 u167 u168 u169 u170 u171 u172 u173 u174 u175 u176 u177 u178 u179 u180 u181 u182 u183 u184 u185 u186 u187 u188 u189 u190 u191 u192 u193 u194 u195 u196 u197 u198 u199 u200 u201 u202 u203 u204 u205 u206 u207 u208 u209 u210 u211 u212 u213 u214 u215 u216 u217 u218 : Value) :
    Code.wp Try.prog num33 (bodyPost Try.prog Try.f18 fun e w' => NumBack v n i e ∧ w' = w) ⟨#[.slice (some ⟨b, off, mm⟩) n cap, .int .i64 q, u2, u3, u4, u5, u6, u7, .int .i64 n, .bool neg, .int .i64 ((p - m) + fracOf p q : Nat), .int .i64 lead, .bool seen, .int .i64 (fracOf p q), u14, u15, u16, u17, u18, u19, u20, u21, u22, u23, u24, u25, u26, u27, u28, u29, u30, u31, u32, u33, u34, u35, u36, u37, u38, u39, u40, u41, u42, u43, u44, u45, u46, u47, u48, u49, u50, u51, u52, u53, u54, u55, u56, u57, u58, u59, u60, u61, u62, u63, u64, u65, u66, u67, u68, u69, u70, u71, u72, u73, u74, u75, u76, u77, u78, u79, u80, u81, u82, u83, u84, u85, u86, u87, u88, u89, u90, u91, u92, u93, u94, u95, u96, u97, u98, u99, u100, u101, u102, u103, u104, u105, u106, u107, u108, u109, u110, u111, u112, u113, u114, u115, u116, u117, u118, u119, u120, u121, u122, u123, u124, u125, u126, u127, u128, u129, u130, u131, u132, u133, u134, u135, u136, u137, u138, u139, u140, u141, u142, u143, u144, u145, u146, u147, u148, u149, u150, u151, u152, u153, u154, u155, u156, u157, u158, u159, u160, u161, u162, u163, u164, u165, u166, u167, u168, u169, u170, u171, u172, u173, u174, u175, u176, u177, u178, u179, u180, u181, u182, u183, u184, u185, u186, u187, u188, u189, u190, u191, u192, u193, u194, u195, u196, u197, u198, u199, u200, u201, u202, u203, u204, u205, u206, u207, u208, u209, u210, u211, u212, u213, u214, u215, u216, u217, u218], []⟩ w := by
  conv => arg 2; whnf
  go_upto_region 35 with fail
  go_cut [130] from 22 (fun s130 w1 => ∃ t : Bool, s130 = .bool t ∧ (t = true → q < n ∧ (v q = 101 ∨ v q = 69)) ∧ w1 = w)
  case first =>
    clear HS HI HJ HF
    by_cases hq : q < n
    · have hcq := HC.out q hq
      by_cases h1 : v q = 101
      · have H1 : Hid (v q = 101) := h1
        rw [h1] at hcq
        clear h1
        go_wp2
        go_meet
        case rel => exact ⟨true, rfl, fun _ => ⟨hq, Or.inl H1.out⟩, rfl⟩
      · by_cases h2 : v q = 69
        · have H1 : Hid (v q = 69) := h2
          rw [h2] at hcq
          clear h1 h2
          go_wp2
          go_meet
          case rel => exact ⟨true, rfl, fun _ => ⟨hq, Or.inr H1.out⟩, rfl⟩
        · obtain ⟨x, hx⟩ : ∃ x, v q = x := ⟨_, rfl⟩
          rw [hx] at hcq h1 h2
          have e1 : ((x : Int) == 101) = false := by rw [beq_eq_false_iff_ne]; omega
          have e2 : ((x : Int) == 69) = false := by rw [beq_eq_false_iff_ne]; omega
          clear h1 h2 hx
          go_wp2
          go_meet
          case rel => exact ⟨false, rfl, fun h => (by cases h), rfl⟩
    · go_wp2
      go_meet
      case rel => exact ⟨false, rfl, fun h => (by cases h), rfl⟩
  case rest =>
    obtain ⟨t, rfl, ht, hwc⟩ := hcut
    subst hwc
    have HT : Hid (t = true → q < n ∧ (v q = 101 ∨ v q = 69)) := ht
    clear ht
    go_upto_if 130 with fail
    go_cut [1, 14, 15] from 16 (fun s1 s14 s15 w1 => ∃ (z : Nat) (X Y : Int) (big : Bool), s1 = .int .i64 z ∧ s14 = .int .i64 X ∧ s15 = .bool big ∧ Expo v q z Y ∧ z ≤ n ∧ (big = false → X = Y) ∧ w1 = wc)
    case first =>
      clear HS HI HJ HF
      cases t with
      | false =>
        go_wp2
        go_meet
        case rel => exact ⟨q, 0, 0, false, rfl, rfl, rfl, Expo.none rfl, hqn, fun _ => rfl, rfl⟩
      | true =>
        obtain ⟨hq, he⟩ := HT.out (by trivial)
        have HE : Hid (v q = 101 ∨ v q = 69) := he
        clear he HT
        refine wp_cond_true rfl ?_
        refine exp_head b off mm n cap hn v i q _ HC hq HE _ _ _ _ _ _ _ _ _ _ _ _ _ _ _ _ _ _ _ _ _ _ _ _ _ _ _ _ _ _ _ _ _ _ _ _ _ _ _ _ _ _ _ _ _ _ _ _ _ _ _ _ _ _ _ _ _ _ _ _ _ _ _ _ _ _ _ _ _ _ _ _ _ _ _ _ _ _ _ _ _ _ _ _ _ _ _ _ _ _ _ _ _ _ _ _ _ _ _ _ _ _ _ _ _ _ _ _ _ _ _ _ _ _ _ _ _ _ _ _ _ _ _ _ _ _ _ _ _ _ _ _ _ _ _ _ _ _ _ _ _ _ _ _ _ _ _ _ _ _ _ _ _ _ _ _ _ _ _ _ _ _ _ _ _ _ _ _ _ _ _ _ _ _ _ _ _ _ _ _ _ _ _ _ _ _ _ _ _ _ _ _ _ _ _ _ _ _ _ _ _ _ _ _ _ _ _ _ _ _ _ _ _ _ _ ?_
        intro z vz X Y big u16 u17 u18 u19 u20 u21 u22 u23 u24 u25 u26 u27 u28 u29 u30 u31 u32 u33 u34 u35 u36 u37 u38 u39 u40 u41 u42 u43 u44 u45 u46 u47 u48 u49 u50 u51 u52 u53 u54 u55 u56 u57 u58 u59 u60 u61 u62 u63 u64 u65 u66 u67 u68 u69 u70 u71 u72 u73 u74 u75 u76 u77 u78 u79 u80 u81 u82 u83 u84 u85 u86 u87 u88 u89 u90 u91 u92 u93 u94 u95 u96 u97 u98 u99 u100 u101 u102 u103 u104 u105 u106 u107 u108 u109 u110 u111 u112 u113 u114 u115 u116 u117 u118 u119 u120 u121 u122 u123 u124 u125 u126 u127 u128 u129 u130 u131 u132 u133 u134 u135 u136 u137 u138 u139 u140 u141 u142 u143 u144 u145 u146 u147 u148 u149 u150 u151 u152 u153 u154 u155 u156 u157 u158 u159 u160 u161 u162 u163 u164 u165 u166 u167 u168 u169 u170 u171 u172 u173 u174 u175 u176 u177 u178 u179 u180 u181 u182 u183 u184 u185 u186 u187 u188 u189 u190 u191 u192 u193 u194 u195 u196 u197 u198 u199 u200 u201 u202 u203 u204 u205 u206 u207 u208 u209 u210 u211 u212 u213 u214 u215 u216 u217 u218 hvz hx hzn hb
        subst hvz
        have HX : Hid (Expo v q z Y) := hx
        have HB : Hid (big = false → X = Y) := hb
        clear hx hb
        go_wp2
        go_meet
        case rel => exact ⟨z, X, Y, big, rfl, rfl, rfl, HX.out, hzn, HB.out, rfl⟩
    case rest =>
      obtain ⟨z, X, Y, big, rfl, rfl, rfl, hx, hzn, hb, hwc⟩ := hcut
      subst hwc
      refine (by assumption : ∀ a w, Code.wp _ _ _ a w → _) _ _ ?_
      exact num_count b off mm n cap hn v i m p q z lead lead1 neg seen seen1 big X Y _ HS.out HI.out HJ.out HF.out hx hzn hb _ _ _ _ _ _ _ _ _ _ _ _ _ _ _ _ _ _ _ _ _ _ _ _ _ _ _ _ _ _ _ _ _ _ _ _ _ _ _ _ _ _ _ _ _ _ _ _ _ _ _ _ _ _ _ _ _ _ _ _ _ _ _ _ _ _ _ _ _ _ _ _ _ _ _ _ _ _ _ _ _ _ _ _ _ _ _ _ _ _ _ _ _ _ _ _ _ _ _ _ _ _ _ _ _ _ _ _ _ _ _ _ _ _ _ _ _ _ _ _ _ _ _ _ _ _ _ _ _ _ _ _ _ _ _ _ _ _ _ _ _ _ _ _ _ _ _ _ _ _ _ _ _ _ _ _ _ _ _ _ _ _ _ _ _ _ _ _ _ _ _ _ _ _ _ _ _ _ _ _ _ _ _ _ _ _ _ _ _ _ _ _ _ _ _ _ _ _ _ _ _ _ _ _ _ _ _ _ _

end Go.Proofs.Qxb6602476a
