/-
  WALK: zzNumber, the fraction and what follows.
-/
import Derived.Test.Qxb6602476aNum5
namespace Go.Proofs.Qxb6602476a
open Go.RowKit Plain

noncomputable def num20 : Code := ((Try.f18.body.bind (tailAt 20)).getD .skip)
noncomputable def num22 : Code := ((Try.f18.body.bind (thenAt 83)).getD .skip)

set_option maxRecDepth 1000000 in
set_option maxHeartbeats 4000000 in
theorem frac_digits (b off : Nat) (mm : Option Nat) (n cap : Nat) (hn : n ≤ 2097152) (v : Nat → Nat) (i m p : Nat) (w : World) (HC : Hid (∀ i, i < n → w.cell? ((⟨b, off, mm⟩ : Addr).add i) = some (.int .u8 (v i)))) (lead1 : Nat) (seen1 : Bool)
    (HI : Hid (IntAt v m p lead1 seen1)) (hmp : m < p) (hp : p < n) (HV : Hid (v p = 46)) (HI2 : Hid (MI v m p (p + 1) lead1 seen1)) (K : Act → World → Prop) (c2 c3 c4 c5 c6 c7 c9 c14 c15 c16 c17 c18 c19 c20 c21 c22 c23 c24 c25 c26 c27 c28 c29 c30 c31 c32 c33 c34 c35 c36 c37 c38 c39 c40 c41 c42 c43 c44 c45 c46 c47 c48 c49 c50 c51 c52 c53 c54 c55 c56 c57 c58 c59 c60 c61 c62 c63 c64 c65 c66 c67 c68 c69 c70 c71 c72 c73 c74 c75 c76 c77 c78 c79 c80 c81 c82 c83 c84 c85 c86 c87 c88 c89 c90 c91 c92 c93 c94 c95 c96 c97 c98 c99 c100 c101 c102 c103 c104 c105 c106 c107 c108 c109 c110 c111 c112 c113 c114 c115 c116 c117 c118 c119 c120 c121 c122 c123 c124 c125 c126 c127 c128 c129 c130 c131 c132 c133 c134 c135 c136 c137 c138 c139 c140 c141 c142 c143 c144 c145 c146 c147 c148 c149 c150 c151 c152 c153 c154 c155 c156 c157 c158 c159 c160 c161 c162 c163 c164 c165 c166 c167 c168 c169 c170 c171 c172 c173 c174 c175 c176 c177 c178 c179 c180 c181 c182 c183 c184 c185 c186 c187 c188 c189 c190 c191 c192 c193 c194 c195 c196 c197 c198 c199 c200 c201 c202 c203 c204 c205 c206 c207 c208 c209 c210 c211 c212 c213 c214 c215 c216 c217 c218 : Value)
    (HK : Hid (∀ (q lead : Nat) (seen : Bool) (vq vd vf : Value) (u4 u5 u6 u7 u22 u23 u24 u25 u26 u27 u28 u29 u30 u31 u32 u33 u34 u35 u36 u37 u38 u39 u40 u41 u42 u43 u44 u45 u46 u47 u48 u49 u50 u51 u52 u53 u54 u55 u56 u57 u58 u59 u60 u61 u62 u63 u64 u65 u66 u67 u68 u69 u70 u71 u72 u73 u74 u75 u76 u77 u78 u79 u80 u81 u82 u83 u84 u85 u86 u87 u88 u89 u90 u91 u92 u93 u94 u95 u96 u97 u98 u99 u100 u101 u102 u103 u104 u105 u106 u107 u108 u109 u110 u111 u112 u113 u114 u115 u116 u117 u118 u119 u120 u121 u122 u123 u124 u125 u126 u127 u128 u129 u130 u131 u132 u133 u134 u135 u136 u137 u138 u139 u140 u141 u142 u143 u144 u145 u146 u147 u148 u149 u150 u151 u152 u153 u154 u155 u156 u157 u158 u159 u160 u161 u162 u163 u164 u165 u166 u167 u168 u169 u170 u171 u172 u173 u174 u175 u176 u177 u178 u179 u180 u181 u182 u183 u184 u185 u186 u187 u188 u189 u190 u191 u192 u193 u194 u195 u196 u197 u198 u199 u200 u201 u202 u203 u204 u205 u206 u207 u208 u209 u210 u211 u212 u213 u214 u215 u216 u217 u218 : Value), vq = .int .i64 q → vd = .int .i64 ((p - m) + fracOf p q : Nat) → vf = .int .i64 (fracOf p q) → MI v m p q lead seen → FracAt v p q → q ≤ n → K ⟨#[.slice (some ⟨b, off, mm⟩) n cap, vq, c2, c3, u4, u5, u6, u7, .int .i64 n, c9, vd, .int .i64 lead, .bool seen, vf, c14, c15, c16, c17, c18, c19, c20, c21, u22, u23, u24, u25, u26, u27, u28, u29, u30, u31, u32, u33, u34, u35, u36, u37, u38, u39, u40, u41, u42, u43, u44, u45, u46, u47, u48, u49, u50, u51, u52, u53, u54, u55, u56, u57, u58, u59, u60, u61, u62, u63, u64, u65, u66, u67, u68, u69, u70, u71, u72, u73, u74, u75, u76, u77, u78, u79, u80, u81, u82, u83, u84, u85, u86, u87, u88, u89, u90, u91, u92, u93, u94, u95, u96, u97, u98, u99, u100, u101, u102, u103, u104, u105, u106, u107, u108, u109, u110, u111, u112, u113, u114, u115, u116, u117, u118, u119, u120, u121, u122, u123, u124, u125, u126, u127, u128, u129, u130, u131, u132, u133, u134, u135, u136, u137, u138, u139, u140, u141, u142, u143, u144, u145, u146, u147, u148, u149, u150, u151, u152, u153, u154, u155, u156, u157, u158, u159, u160, u161, u162, u163, u164, u165, u166, u167, u168, u169, u170, u171, u172, u173, u174, u175, u176, u177, u178, u179, u180, u181, u182, u183, u184, u185, u186, u187, u188, u189, u190, u191, u192, u193, u194, u195, u196, u197, u198, u199, u200, u201, u202, u203, u204, u205, u206, u207, u208, u209, u210, u211, u212, u213, u214, u215, u216, u217, u218], []⟩ w)) :
    Code.wp Try.prog num22 (Exit.then K (bodyPost Try.prog Try.f18 fun e w' => NumBack v n i e ∧ w' = w)) ⟨#[.slice (some ⟨b, off, mm⟩) n cap, .int .i64 p, c2, c3, c4, c5, c6, c7, .int .i64 n, c9, .int .i64 (p - m : Nat), .int .i64 lead1, .bool seen1, .int .i64 0, c14, c15, c16, c17, c18, c19, c20, c21, c22, c23, c24, c25, c26, c27, c28, c29, c30, c31, c32, c33, c34, c35, c36, c37, c38, c39, c40, c41, c42, c43, c44, c45, c46, c47, c48, c49, c50, c51, c52, c53, c54, c55, c56, c57, c58, c59, c60, c61, c62, c63, c64, c65, c66, c67, c68, c69, c70, c71, c72, c73, c74, c75, c76, c77, c78, c79, c80, c81, c82, c83, c84, c85, c86, c87, c88, c89, c90, c91, c92, c93, c94, c95, c96, c97, c98, c99, c100, c101, c102, c103, c104, c105, c106, c107, c108, c109, c110, c111, c112, c113, c114, c115, c116, c117, c118, c119, c120, c121, c122, c123, c124, c125, c126, c127, c128, c129, c130, c131, c132, c133, c134, c135, c136, c137, c138, c139, c140, c141, c142, c143, c144, c145, c146, c147, c148, c149, c150, c151, c152, c153, c154, c155, c156, c157, c158, c159, c160, c161, c162, c163, c164, c165, c166, c167, c168, c169, c170, c171, c172, c173, c174, c175, c176, c177, c178, c179, c180, c181, c182, c183, c184, c185, c186, c187, c188, c189, c190, c191, c192, c193, c194, c195, c196, c197, c198, c199, c200, c201, c202, c203, c204, c205, c206, c207, c208, c209, c210, c211, c212, c213, c214, c215, c216, c217, c218], []⟩ w := by
  conv => arg 2; whnf
  go_wp2
  go_loopg [1, 10, 11, 12, 13] (n - (p + 1)) (fun g s1 s10 s11 s12 s13 wr => ∃ (j lead : Nat) (seen : Bool), s1 = .int .i64 j ∧ s10 = .int .i64 ((p - m) + (j - (p + 1)) : Nat) ∧ s11 = .int .i64 lead ∧ s12 = .bool seen ∧ s13 = .int .i64 (j - (p + 1) : Nat) ∧ MI v m p j lead seen ∧ (∀ k, p + 1 ≤ k → k < j → Dg (v k)) ∧ j + g = n ∧ p + 1 ≤ j ∧ lead ≤ j ∧ wr = w)
  case atStart => exact ⟨p + 1, lead1, seen1, by go_num, by rw [Nat.sub_self]; rfl, rfl, rfl, by rw [Nat.sub_self]; rfl, HI2.out, fun k h1 h2 => by omega, by omega, by omega, by have := (HI.out.2.2.lead_le hmp (Or.inl rfl)).1; unfold fracOf at this; omega, rfl⟩
  case round =>
    obtain ⟨j, lead, seen, rfl, rfl, rfl, rfl, rfl, hmi, hdj, hjg, hpj, hlj, hwr⟩ := hrel
    subst hwr
    have HJ : Hid (MI v m p j lead seen) := hmi
    have HD : Hid (∀ k, p + 1 ≤ k → k < j → Dg (v k)) := hdj
    clear hmi hdj HI2
    by_cases hj : j < n
    · have hcj := HC.out j hj
      obtain ⟨x, hx⟩ : ∃ x, v j = x := ⟨_, rfl⟩
      rw [hx] at hcj
      by_cases hd : Dg x
      · have HD2 : Hid (∀ k, p + 1 ≤ k → k < j + 1 → Dg (v k)) := num_step HD.out (by rw [hx]; exact hd)
        have Hd : Hid (Dg x) := hd
        have HX : Hid (v j = x) := hx
        clear hd hx
        cases seen with
        | true =>
          have HJ2 : Hid (MI v m p (j + 1) lead true) := HJ.out.seen
          go_wp2_with (go_at_call 12; refine (zzIsDigit_yes x Hd.out _).mono ?_; rintro e w' ⟨rfl, hw'⟩; subst hw')
          go_roundg (n - (j + 1))
          case measure => omega
          case rel => exact ⟨j + 1, lead, true, by go_num, by go_num, rfl, rfl, by go_num, HJ2.out, HD2.out, by omega, by omega, by omega, rfl⟩
        | false =>
          by_cases h48 : x = 48
          · have HJ2 : Hid (MI v m p (j + 1) (lead + 1) false) := HJ.out.zero (by omega) (by rw [HX.out]; exact h48)
            subst h48
            go_wp2_with (go_at_call 12; refine (zzIsDigit_yes 48 Hd.out _).mono ?_; rintro e w' ⟨rfl, hw'⟩; subst hw')
            go_roundg (n - (j + 1))
            case measure => omega
            case rel => exact ⟨j + 1, lead + 1, false, by go_num, by go_num, by go_num, rfl, by go_num, HJ2.out, HD2.out, by omega, by omega, by omega, rfl⟩
          · have HJ2 : Hid (MI v m p (j + 1) lead true) := HJ.out.first (by omega) (by omega) (by rw [HX.out]; exact nz48 Hd.out h48)
            have e48 : ((x : Int) == 48) = false := by rw [beq_eq_false_iff_ne]; omega
            clear h48
            go_wp2_with (go_at_call 12; refine (zzIsDigit_yes x Hd.out _).mono ?_; rintro e w' ⟨rfl, hw'⟩; subst hw')
            go_roundg (n - (j + 1))
            case measure => omega
            case rel => exact ⟨j + 1, lead, true, by go_num, by go_num, rfl, rfl, by go_num, HJ2.out, HD2.out, by omega, by omega, by omega, rfl⟩
      · have Hd : Hid (¬ Dg x) := hd
        clear hd hx
        by_cases hjp : j = p + 1
        · subst hjp
          replace hcj := cell_succ hcj
          have e0 : (((p + 1 - (p + 1) : Nat) : Int) == 0) = true := by rw [Nat.sub_self]; rfl
          go_wp2_with (go_at_call 12; refine (zzIsDigit_no x Hd.out _).mono ?_; rintro e w' ⟨rfl, hw'⟩; subst hw')
          (try simp only [Exit.inBlock, Exit.then]); refine bodyPost_ret (results_tmp4 rfl _ _ _) rfl ?_
          exact ⟨numBack_no v n i (p + 1), rfl⟩
        · have hne : (((j - (p + 1) : Nat) : Int) == 0) = false := by rw [beq_eq_false_iff_ne]; omega
          have ef : fracOf p j = j - (p + 1) := by unfold fracOf; omega
          have HE : Hid (fracOf p j = j - (p + 1)) := ef
          clear ef
          go_wp2_with (go_at_call 12; refine (zzIsDigit_no x Hd.out _).mono ?_; rintro e w' ⟨rfl, hw'⟩; subst hw')
          exact HK.out j lead seen _ _ _ _ _ _ _ _ _ _ _ _ _ _ _ _ _ _ _ _ _ _ _ _ _ _ _ _ _ _ _ _ _ _ _ _ _ _ _ _ _ _ _ _ _ _ _ _ _ _ _ _ _ _ _ _ _ _ _ _ _ _ _ _ _ _ _ _ _ _ _ _ _ _ _ _ _ _ _ _ _ _ _ _ _ _ _ _ _ _ _ _ _ _ _ _ _ _ _ _ _ _ _ _ _ _ _ _ _ _ _ _ _ _ _ _ _ _ _ _ _ _ _ _ _ _ _ _ _ _ _ _ _ _ _ _ _ _ _ _ _ _ _ _ _ _ _ _ _ _ _ _ _ _ _ _ _ _ _ _ _ _ _ _ _ _ _ _ _ _ _ _ _ _ _ _ _ _ _ _ _ _ _ _ _ _ _ _ _ _ _ _ _ _ _ _ _ _ _ _ _ _ _ _ rfl (by first | (rw [HE.out]; go_num) | rw [HE.out]) (by rw [HE.out]) HJ.out (Or.inr ⟨HV.out, by omega, HD.out⟩) (by omega)
    · by_cases hjp : j = p + 1
      · subst hjp
        have e0 : (((p + 1 - (p + 1) : Nat) : Int) == 0) = true := by rw [Nat.sub_self]; rfl
        go_wp2
        (try simp only [Exit.inBlock, Exit.then]); refine bodyPost_ret (results_tmp4 rfl _ _ _) rfl ?_
        exact ⟨numBack_no v n i (p + 1), rfl⟩
      · have hne : (((j - (p + 1) : Nat) : Int) == 0) = false := by rw [beq_eq_false_iff_ne]; omega
        have HE : Hid (fracOf p j = j - (p + 1)) := by show fracOf p j = _; unfold fracOf; omega
        go_wp2
        exact HK.out j lead seen _ _ _ _ _ _ _ _ _ _ _ _ _ _ _ _ _ _ _ _ _ _ _ _ _ _ _ _ _ _ _ _ _ _ _ _ _ _ _ _ _ _ _ _ _ _ _ _ _ _ _ _ _ _ _ _ _ _ _ _ _ _ _ _ _ _ _ _ _ _ _ _ _ _ _ _ _ _ _ _ _ _ _ _ _ _ _ _ _ _ _ _ _ _ _ _ _ _ _ _ _ _ _ _ _ _ _ _ _ _ _ _ _ _ _ _ _ _ _ _ _ _ _ _ _ _ _ _ _ _ _ _ _ _ _ _ _ _ _ _ _ _ _ _ _ _ _ _ _ _ _ _ _ _ _ _ _ _ _ _ _ _ _ _ _ _ _ _ _ _ _ _ _ _ _ _ _ _ _ _ _ _ _ _ _ _ _ _ _ _ _ _ _ _ _ _ _ _ _ _ _ _ _ _ rfl (by first | (rw [HE.out]; go_num) | rw [HE.out]) (by rw [HE.out]) HJ.out (Or.inr ⟨HV.out, by omega, HD.out⟩) (by omega)

set_option maxRecDepth 1000000 in
set_option maxHeartbeats 4000000 in
theorem num_frac (b off : Nat) (mm : Option Nat) (n cap : Nat) (hn : n ≤ 2097152) (v : Nat → Nat) (i m p : Nat) (w : World) (HC : Hid (∀ i, i < n → w.cell? ((⟨b, off, mm⟩ : Addr).add i) = some (.int .u8 (v i)))) (lead1 : Nat) (neg seen1 : Bool)
    (HS : Hid (SignAt v i m neg)) (HI : Hid (IntAt v m p lead1 seen1)) (hmp : m < p) (hpn : p ≤ n) (c2 c3 c4 c5 c6 c7 c13 c14 c15 c16 c17 c18 c19 c20 c21 c22 c23 c24 c25 c26 c27 c28 c29 c30 c31 c32 c33 c34 c35 c36 c37 c38 c39 c40 c41 c42 c43 c44 c45 c46 c47 c48 c49 c50 c51 c52 c53 c54 c55 c56 c57 c58 c59 c60 c61 c62 c63 c64 c65 c66 c67 c68 c69 c70 c71 c72 c73 c74 c75 c76 c77 c78 c79 c80 c81 c82 c83 c84 c85 c86 c87 c88 c89 c90 c91 c92 c93 c94 c95 c96 c97 c98 c99 c100 c101 c102 c103 c104 c105 c106 c107 c108 c109 c110 c111 c112 c113 c114 c115 c116 c117 c118 c119 c120 c121 c122 c123 c124 c125 c126 c127 c128 c129 c130 c131 c132 c133 c134 c135 c136 c137 c138 c139 c140 c141 c142 c143 c144 c145 c146 c147 c148 c149 c150 c151 c152 c153 c154 c155 c156 c157 c158 c159 c160 c161 c162 c163 c164 c165 c166 c167 c168 c169 c170 c171 c172 c173 c174 c175 c176 c177 c178 c179 c180 c181 c182 c183 c184 c185 c186 c187 c188 c189 c190 c191 c192 c193 c194 c195 c196 c197 c198 c199 c200 c201 c202 c203 c204 c205 c206 c207 c208 c209 c210 c211 c212 c213 c214 c215 c216 c217 c218 : Value) :
    Code.wp Try.prog num20 (bodyPost Try.prog Try.f18 fun e w' => NumBack v n i e ∧ w' = w) ⟨#[.slice (some ⟨b, off, mm⟩) n cap, .int .i64 p, c2, c3, c4, c5, c6, c7, .int .i64 n, .bool neg, .int .i64 (p - m : Nat), .int .i64 lead1, .bool seen1, c13, c14, c15, c16, c17, c18, c19, c20, c21, c22, c23, c24, c25, c26, c27, c28, c29, c30, c31, c32, c33, c34, c35, c36, c37, c38, c39, c40, c41, c42, c43, c44, c45, c46, c47, c48, c49, c50, c51, c52, c53, c54, c55, c56, c57, c58, c59, c60, c61, c62, c63, c64, c65, c66, c67, c68, c69, c70, c71, c72, c73, c74, c75, c76, c77, c78, c79, c80, c81, c82, c83, c84, c85, c86, c87, c88, c89, c90, c91, c92, c93, c94, c95, c96, c97, c98, c99, c100, c101, c102, c103, c104, c105, c106, c107, c108, c109, c110, c111, c112, c113, c114, c115, c116, c117, c118, c119, c120, c121, c122, c123, c124, c125, c126, c127, c128, c129, c130, c131, c132, c133, c134, c135, c136, c137, c138, c139, c140, c141, c142, c143, c144, c145, c146, c147, c148, c149, c150, c151, c152, c153, c154, c155, c156, c157, c158, c159, c160, c161, c162, c163, c164, c165, c166, c167, c168, c169, c170, c171, c172, c173, c174, c175, c176, c177, c178, c179, c180, c181, c182, c183, c184, c185, c186, c187, c188, c189, c190, c191, c192, c193, c194, c195, c196, c197, c198, c199, c200, c201, c202, c203, c204, c205, c206, c207, c208, c209, c210, c211, c212, c213, c214, c215, c216, c217, c218], []⟩ w := by
  conv => arg 2; whnf
  go_upto_region 21 with fail
  go_cut [83] from 22 (fun s83 w1 => ∃ t : Bool, s83 = .bool t ∧ (t = true → p < n ∧ v p = 46) ∧ w1 = w)
  case first =>
    by_cases hp : p < n
    · have hcp := HC.out p hp
      obtain ⟨x, hx⟩ : ∃ x, v p = x := ⟨_, rfl⟩
      rw [hx] at hcp
      have HX : Hid (v p = x) := hx
      clear hx
      go_wp2
      go_meet
      case rel => exact ⟨_, rfl, fun h => ⟨hp, by rw [HX.out]; have := eq_of_beq h; omega⟩, rfl⟩
    · go_wp2
      go_meet
      case rel => exact ⟨false, rfl, fun h => (by cases h), rfl⟩
  case rest =>
    obtain ⟨t, rfl, ht, hwc⟩ := hcut
    subst hwc
    have HT : Hid (t = true → p < n ∧ v p = 46) := ht
    clear ht
    go_upto_if 83 with fail
    go_cut [1, 10, 11, 12, 13] from 22 (fun s1 s10 s11 s12 s13 w1 => ∃ (q lead : Nat) (seen : Bool), s1 = .int .i64 q ∧ s10 = .int .i64 ((p - m) + fracOf p q : Nat) ∧ s11 = .int .i64 lead ∧ s12 = .bool seen ∧ s13 = .int .i64 (fracOf p q) ∧ MI v m p q lead seen ∧ FracAt v p q ∧ q ≤ n ∧ w1 = wc)
    case first =>
      cases t with
      | false =>
        go_wp2
        go_meet
        case rel =>
          have e : fracOf p p = 0 := by unfold fracOf; omega
          exact ⟨p, lead1, seen1, rfl, by rw [e]; rfl, rfl, rfl, by rw [e]; rfl, HI.out.2.2, Or.inl rfl, hpn, rfl⟩
      | true =>
        obtain ⟨hp, hv⟩ := HT.out (by trivial)
        have HV : Hid (v p = 46) := hv
        have HI2 : Hid (MI v m p (p + 1) lead1 seen1) := HI.out.2.2.dot hv
        clear hv HT
        refine wp_cond_true rfl ?_
        refine frac_digits b off mm n cap hn v i m p _ HC lead1 seen1 HI hmp hp HV HI2 _ _ _ _ _ _ _ _ _ _ _ _ _ _ _ _ _ _ _ _ _ _ _ _ _ _ _ _ _ _ _ _ _ _ _ _ _ _ _ _ _ _ _ _ _ _ _ _ _ _ _ _ _ _ _ _ _ _ _ _ _ _ _ _ _ _ _ _ _ _ _ _ _ _ _ _ _ _ _ _ _ _ _ _ _ _ _ _ _ _ _ _ _ _ _ _ _ _ _ _ _ _ _ _ _ _ _ _ _ _ _ _ _ _ _ _ _ _ _ _ _ _ _ _ _ _ _ _ _ _ _ _ _ _ _ _ _ _ _ _ _ _ _ _ _ _ _ _ _ _ _ _ _ _ _ _ _ _ _ _ _ _ _ _ _ _ _ _ _ _ _ _ _ _ _ _ _ _ _ _ _ _ _ _ _ _ _ _ _ _ _ _ _ _ _ _ _ _ _ _ _ _ _ _ _ _ _ _ _ _ _ _ _ ?_
        intro q lead seen vq vd vf u4 u5 u6 u7 u22 u23 u24 u25 u26 u27 u28 u29 u30 u31 u32 u33 u34 u35 u36 u37 u38 u39 u40 u41 u42 u43 u44 u45 u46 u47 u48 u49 u50 u51 u52 u53 u54 u55 u56 u57 u58 u59 u60 u61 u62 u63 u64 u65 u66 u67 u68 u69 u70 u71 u72 u73 u74 u75 u76 u77 u78 u79 u80 u81 u82 u83 u84 u85 u86 u87 u88 u89 u90 u91 u92 u93 u94 u95 u96 u97 u98 u99 u100 u101 u102 u103 u104 u105 u106 u107 u108 u109 u110 u111 u112 u113 u114 u115 u116 u117 u118 u119 u120 u121 u122 u123 u124 u125 u126 u127 u128 u129 u130 u131 u132 u133 u134 u135 u136 u137 u138 u139 u140 u141 u142 u143 u144 u145 u146 u147 u148 u149 u150 u151 u152 u153 u154 u155 u156 u157 u158 u159 u160 u161 u162 u163 u164 u165 u166 u167 u168 u169 u170 u171 u172 u173 u174 u175 u176 u177 u178 u179 u180 u181 u182 u183 u184 u185 u186 u187 u188 u189 u190 u191 u192 u193 u194 u195 u196 u197 u198 u199 u200 u201 u202 u203 u204 u205 u206 u207 u208 u209 u210 u211 u212 u213 u214 u215 u216 u217 u218 hvq hvd hvf hmi hfr hqn
        subst hvq hvd hvf
        have HJ : Hid (MI v m p q lead seen) := hmi
        have HF : Hid (FracAt v p q) := hfr
        clear hmi hfr
        go_wp2
        go_meet
        case rel => exact ⟨q, lead, seen, rfl, by go_num, rfl, rfl, rfl, HJ.out, HF.out, hqn, rfl⟩
    case rest =>
      obtain ⟨q, lead, seen, rfl, rfl, rfl, rfl, rfl, hmi, hfr, hqn, hwc⟩ := hcut
      subst hwc
      refine (by assumption : ∀ a w, Code.wp _ _ _ a w → _) _ _ ?_
      exact num_exp b off mm n cap hn v i m p q lead lead1 neg seen seen1 _ HC HS HI hmi hfr hqn _ _ _ _ _ _ _ _ _ _ _ _ _ _ _ _ _ _ _ _ _ _ _ _ _ _ _ _ _ _ _ _ _ _ _ _ _ _ _ _ _ _ _ _ _ _ _ _ _ _ _ _ _ _ _ _ _ _ _ _ _ _ _ _ _ _ _ _ _ _ _ _ _ _ _ _ _ _ _ _ _ _ _ _ _ _ _ _ _ _ _ _ _ _ _ _ _ _ _ _ _ _ _ _ _ _ _ _ _ _ _ _ _ _ _ _ _ _ _ _ _ _ _ _ _ _ _ _ _ _ _ _ _ _ _ _ _ _ _ _ _ _ _ _ _ _ _ _ _ _ _ _ _ _ _ _ _ _ _ _ _ _ _ _ _ _ _ _ _ _ _ _ _ _ _ _ _ _ _ _ _ _ _ _ _ _ _ _ _ _ _ _ _ _ _ _ _ _ _ _ _ _ _ _ _ _ _ _ _ _ _

end Go.Proofs.Qxb6602476a
