/-
  WALK: zzScanJSON: a value.
-/
import Derived.Test.Qxb6602476aScan3
namespace Go.Proofs.Qxb6602476a
open Go.RowKit Plain

/-- The sequence that begins with region k, wherever it stands. -/
def seqAt (k : Nat) : Code → Option Code
  | .seq a b => if headRegion a = some k then some (.seq a b) else match seqAt k a with
    | some c => some c
    | none => seqAt k b
  | .cond _ a b => match seqAt k a with
    | some c => some c
    | none => seqAt k b
  | .block _ c => seqAt k c
  | .scope c => seqAt k c
  | .loop c => seqAt k c
  | _ => none
noncomputable def scanV : Code := ((Try.f25.body.bind (seqAt 52)).getD .skip)

set_option linter.unusedVariables false in
set_option maxRecDepth 1000000 in
set_option maxHeartbeats 4000000 in
theorem scan_value (a : Option Addr) (n cap : Nat) (hn : n ≤ 2097152) (v : Nat → Nat) (w wr : World) (i : Nat) (hi : i < n) (c : Nat) (HV : Hid (v i = c)) (hc8 : c < 256) (sz : Int) (ex : Bool) (vs : Value) (st : Nat) (hst : st ≠ 2) (HB : Hid (Bts wr a n v))
    (HS : Hid (SI v n w wr st i sz ex vs)) (Q : Exit → Act → World → Prop) (c1 c2 c3 c4 c9 c12 c13 c14 c15 c16 c17 c18 c19 c20 c21 c22 c23 c24 c25 c26 c27 c28 c29 c30 c31 c32 c33 c34 c35 c36 c37 c38 c39 c40 c41 c42 c43 c44 c45 c46 c47 c48 c49 c50 c51 c52 c53 c54 c55 c56 c57 c58 c59 c60 c61 c62 c63 c64 c65 c66 c67 c68 c69 c70 c71 c72 c73 c74 c75 c76 c77 c78 c79 c80 c81 c82 c83 c84 c85 c86 c87 c88 c89 c90 c91 c92 c93 c94 c95 c96 c97 c98 c99 c100 c101 c102 c103 c104 c105 c106 c107 c108 c109 c110 c111 c112 c113 c114 c115 c116 c117 c118 c119 c120 c121 c122 c123 c124 c125 c126 c127 c128 c129 c130 c131 c132 c133 c134 c135 c136 c137 c138 c139 c140 c141 c142 c143 c144 c145 c146 c147 c148 c149 c150 c151 c152 c153 c154 c155 c156 c157 c158 c159 c160 c161 c162 c163 c164 c165 c166 c167 c168 c169 c170 c171 c172 c173 c174 c175 c176 c177 c178 c179 c180 c181 c182 c183 c184 c185 c186 c187 c188 c189 c190 c191 c192 c193 c194 c195 c196 c197 c198 c199 c200 c201 c202 c203 c204 c205 c206 c207 c208 c209 c210 c211 c212 c213 c214 c215 c216 c217 c218 c219 c220 c221 c222 c223 c224 c225 c226 c227 c228 c229 c230 c231 c232 c233 c234 c235 c236 c237 c238 c239 c240 c241 c242 c243 c244 c245 c246 c247 c248 c249 c250 c251 c252 c253 c254 c255 c256 c257 : Value)
    (HN : Hid (∀ (st2 i2 : Nat) (sz2 : Int) (ex2 : Bool) (s6 s9 s10 vs2 : Value) (w2 : World) (u2 u3 u4 u11 u12 u13 u14 u15 u16 u17 u18 u19 u20 u23 u24 u25 u26 u27 u28 u29 u30 u31 u32 u33 u34 u35 u36 u37 u38 u39 u40 u41 u42 u43 u44 u45 u46 u47 u48 u49 u50 u51 u52 u53 u54 u55 u56 u57 u58 u59 u60 u61 u62 u63 u64 u65 u66 u67 u68 u69 u70 u71 u72 u73 u74 u75 u76 u77 u78 u79 u80 u81 u82 u83 u84 u85 u86 u87 u88 u89 u90 u91 u92 u93 u94 u95 u96 u97 u98 u99 u100 u101 u102 u103 u104 u105 u106 u107 u108 u109 u110 u111 u112 u113 u114 u115 u116 u117 u118 u119 u120 u121 u122 u123 u124 u125 u126 u127 u128 u129 u130 u131 u132 u133 u134 u135 u136 u137 u138 u139 u140 u141 u142 u143 u144 u145 u146 u147 u148 u149 u150 u151 u152 u153 u154 u155 u156 u157 u158 u159 u160 u161 u162 u163 u164 u165 u166 u167 u168 u169 u170 u171 u172 u173 u174 u175 u176 u177 u178 u179 u180 u181 u182 u183 u184 u185 u186 u187 u188 u189 u190 u191 u192 u193 u194 u195 u196 u197 u198 u199 u200 u201 u202 u203 u204 u205 u206 u207 u208 u209 u210 u211 u212 u213 u214 u215 u216 u217 u218 u219 u220 u221 u222 u223 u224 u225 u226 u227 u228 u229 u230 u231 u232 u233 u234 u235 u236 u237 u238 u239 u240 u241 u242 u243 u244 u245 u246 u247 u248 u249 u250 u251 u252 u253 u254 u255 u256 u257 : Value), s6 = .int .i64 sz2 → s9 = .int .i64 st2 → s10 = .int .i64 i2 → i < i2 → SI v n w w2 st2 i2 sz2 ex2 vs2 → Q .normal ⟨#[.slice a n cap, c1, u2, u3, u4, .int .i64 n, s6, .bool ex2, vs2, s9, s10, u11, u12, u13, u14, u15, u16, u17, u18, u19, u20, c21, c22, u23, u24, u25, u26, u27, u28, u29, u30, u31, u32, u33, u34, u35, u36, u37, u38, u39, u40, u41, u42, u43, u44, u45, u46, u47, u48, u49, u50, u51, u52, u53, u54, u55, u56, u57, u58, u59, u60, u61, u62, u63, u64, u65, u66, u67, u68, u69, u70, u71, u72, u73, u74, u75, u76, u77, u78, u79, u80, u81, u82, u83, u84, u85, u86, u87, u88, u89, u90, u91, u92, u93, u94, u95, u96, u97, u98, u99, u100, u101, u102, u103, u104, u105, u106, u107, u108, u109, u110, u111, u112, u113, u114, u115, u116, u117, u118, u119, u120, u121, u122, u123, u124, u125, u126, u127, u128, u129, u130, u131, u132, u133, u134, u135, u136, u137, u138, u139, u140, u141, u142, u143, u144, u145, u146, u147, u148, u149, u150, u151, u152, u153, u154, u155, u156, u157, u158, u159, u160, u161, u162, u163, u164, u165, u166, u167, u168, u169, u170, u171, u172, u173, u174, u175, u176, u177, u178, u179, u180, u181, u182, u183, u184, u185, u186, u187, u188, u189, u190, u191, u192, u193, u194, u195, u196, u197, u198, u199, u200, u201, u202, u203, u204, u205, u206, u207, u208, u209, u210, u211, u212, u213, u214, u215, u216, u217, u218, u219, u220, u221, u222, u223, u224, u225, u226, u227, u228, u229, u230, u231, u232, u233, u234, u235, u236, u237, u238, u239, u240, u241, u242, u243, u244, u245, u246, u247, u248, u249, u250, u251, u252, u253, u254, u255, u256, u257], []⟩ w2))
    (HR : Hid (∀ (tmps : Array Value) (w2 : World), RetScan v n w tmps w2 → Q .ret ⟨tmps, []⟩ w2)) :
    Code.wp Try.prog scanV Q ⟨#[.slice a n cap, c1, c2, c3, c4, .int .i64 n, .int .i64 sz, .bool ex, vs, c9, .int .i64 i, .int .u8 c, c12, c13, c14, c15, c16, c17, c18, c19, c20, c21, c22, c23, c24, c25, c26, c27, c28, c29, c30, c31, c32, c33, c34, c35, c36, c37, c38, c39, c40, c41, c42, c43, c44, c45, c46, c47, c48, c49, c50, c51, c52, c53, c54, c55, c56, c57, c58, c59, c60, c61, c62, c63, c64, c65, c66, c67, c68, c69, c70, c71, c72, c73, c74, c75, c76, c77, c78, c79, c80, c81, c82, c83, c84, c85, c86, c87, c88, c89, c90, c91, c92, c93, c94, c95, c96, c97, c98, c99, c100, c101, c102, c103, c104, c105, c106, c107, c108, c109, c110, c111, c112, c113, c114, c115, c116, c117, c118, c119, c120, c121, c122, c123, c124, c125, c126, c127, c128, c129, c130, c131, c132, c133, c134, c135, c136, c137, c138, c139, c140, c141, c142, c143, c144, c145, c146, c147, c148, c149, c150, c151, c152, c153, c154, c155, c156, c157, c158, c159, c160, c161, c162, c163, c164, c165, c166, c167, c168, c169, c170, c171, c172, c173, c174, c175, c176, c177, c178, c179, c180, c181, c182, c183, c184, c185, c186, c187, c188, c189, c190, c191, c192, c193, c194, c195, c196, c197, c198, c199, c200, c201, c202, c203, c204, c205, c206, c207, c208, c209, c210, c211, c212, c213, c214, c215, c216, c217, c218, c219, c220, c221, c222, c223, c224, c225, c226, c227, c228, c229, c230, c231, c232, c233, c234, c235, c236, c237, c238, c239, c240, c241, c242, c243, c244, c245, c246, c247, c248, c249, c250, c251, c252, c253, c254, c255, c256, c257], []⟩ wr := by
  conv => arg 2; whnf
  by_cases h123 : c = 123
  · subst h123
    go_upto_if 164 with fail
    refine wp_cond_true rfl ?_
    exact scan_push164 a n cap hn v w wr i hi 123 HV hc8 sz ex vs st hst rfl HS Q _ _ _ _ _ _ _ _ _ _ _ _ _ _ _ _ _ _ _ _ _ _ _ _ _ _ _ _ _ _ _ _ _ _ _ _ _ _ _ _ _ _ _ _ _ _ _ _ _ _ _ _ _ _ _ _ _ _ _ _ _ _ _ _ _ _ _ _ _ _ _ _ _ _ _ _ _ _ _ _ _ _ _ _ _ _ _ _ _ _ _ _ _ _ _ _ _ _ _ _ _ _ _ _ _ _ _ _ _ _ _ _ _ _ _ _ _ _ _ _ _ _ _ _ _ _ _ _ _ _ _ _ _ _ _ _ _ _ _ _ _ _ _ _ _ _ _ _ _ _ _ _ _ _ _ _ _ _ _ _ _ _ _ _ _ _ _ _ _ _ _ _ _ _ _ _ _ _ _ _ _ _ _ _ _ _ _ _ _ _ _ _ _ _ _ _ _ _ _ _ _ _ _ _ _ _ _ _ _ _ _ _ _ _ _ _ _ _ _ _ _ _ _ _ _ _ _ _ _ _ _ _ _ _ _ _ _ _ _ _ _ _ _ _ _ _ _ _ _ _ _ HN
  by_cases h91 : c = 91
  · subst h91
    go_upto_if 173 with fail
    refine wp_cond_true rfl ?_
    exact scan_push173 a n cap hn v w wr i hi 91 HV hc8 sz ex vs st hst rfl HS Q _ _ _ _ _ _ _ _ _ _ _ _ _ _ _ _ _ _ _ _ _ _ _ _ _ _ _ _ _ _ _ _ _ _ _ _ _ _ _ _ _ _ _ _ _ _ _ _ _ _ _ _ _ _ _ _ _ _ _ _ _ _ _ _ _ _ _ _ _ _ _ _ _ _ _ _ _ _ _ _ _ _ _ _ _ _ _ _ _ _ _ _ _ _ _ _ _ _ _ _ _ _ _ _ _ _ _ _ _ _ _ _ _ _ _ _ _ _ _ _ _ _ _ _ _ _ _ _ _ _ _ _ _ _ _ _ _ _ _ _ _ _ _ _ _ _ _ _ _ _ _ _ _ _ _ _ _ _ _ _ _ _ _ _ _ _ _ _ _ _ _ _ _ _ _ _ _ _ _ _ _ _ _ _ _ _ _ _ _ _ _ _ _ _ _ _ _ _ _ _ _ _ _ _ _ _ _ _ _ _ _ _ _ _ _ _ _ _ _ _ _ _ _ _ _ _ _ _ _ _ _ _ _ _ _ _ _ _ _ _ _ _ _ _ _ _ _ _ _ _ _ HN
  by_cases h34 : c = 34
  · subst h34
    go_upto_if 182 with fail
    refine wp_cond_true rfl ?_
    exact scan_string a n cap hn v w wr i hi 34 HV hc8 sz ex vs st hst rfl HB HS Q _ _ _ _ _ _ _ _ _ _ _ _ _ _ _ _ _ _ _ _ _ _ _ _ _ _ _ _ _ _ _ _ _ _ _ _ _ _ _ _ _ _ _ _ _ _ _ _ _ _ _ _ _ _ _ _ _ _ _ _ _ _ _ _ _ _ _ _ _ _ _ _ _ _ _ _ _ _ _ _ _ _ _ _ _ _ _ _ _ _ _ _ _ _ _ _ _ _ _ _ _ _ _ _ _ _ _ _ _ _ _ _ _ _ _ _ _ _ _ _ _ _ _ _ _ _ _ _ _ _ _ _ _ _ _ _ _ _ _ _ _ _ _ _ _ _ _ _ _ _ _ _ _ _ _ _ _ _ _ _ _ _ _ _ _ _ _ _ _ _ _ _ _ _ _ _ _ _ _ _ _ _ _ _ _ _ _ _ _ _ _ _ _ _ _ _ _ _ _ _ _ _ _ _ _ _ _ _ _ _ _ _ _ _ _ _ _ _ _ _ _ _ _ _ _ _ _ _ _ _ _ _ _ _ _ _ _ _ _ _ _ _ _ _ _ _ _ _ _ _ _ HN HR
  by_cases hw : c = 116 ∨ c = 102 ∨ c = 110
  · clear h123 h91 h34
    rcases hw with h116 | h102 | h110
    · subst h116
      go_wp2_with fail
      refine (zzHasAt_any a n cap hn v i hi ⟨#[116, 114, 117, 101]⟩ (by decide) _ HB.out).mono ?_
      rintro e w' ⟨⟨ok, rfl, hok⟩, m, hw'⟩
      subst hw'
      simp only []
      have HS' := HS.out.drewN m
      have HSm : Hid (SI v n w (wr.drewN m) st i sz ex vs) := HS'
      clear HS' HB
      cases ok with
      | true =>
        have hl : i + 4 ≤ n := (hok rfl).1
        have k0 : v (i + 0) = 116 := (hok rfl).2 0 (by decide)
        have k1 : v (i + 1) = 114 := (hok rfl).2 1 (by decide)
        have k2 : v (i + 2) = 117 := (hok rfl).2 2 (by decide)
        have k3 : v (i + 3) = 101 := (hok rfl).2 3 (by decide)
        have HK : Hid (Know v n 2 (i + 4) (sz + 4) ex) := HS.out.know.word hst hl fun s hr => hr.word4 hl k0 k1 k2 k3 (by omega) (by omega) (by omega) (by omega)
        clear hok k0 k1 k2 k3
        go_upto_if 205 with fail
        refine wp_cond_true rfl ?_
        exact scan_word205 a n cap hn v w _ i hi 116 HV hc8 sz ex vs st hst HK HSm Q _ _ _ _ _ _ _ _ _ _ _ _ _ _ _ _ _ _ _ _ _ _ _ _ _ _ _ _ _ _ _ _ _ _ _ _ _ _ _ _ _ _ _ _ _ _ _ _ _ _ _ _ _ _ _ _ _ _ _ _ _ _ _ _ _ _ _ _ _ _ _ _ _ _ _ _ _ _ _ _ _ _ _ _ _ _ _ _ _ _ _ _ _ _ _ _ _ _ _ _ _ _ _ _ _ _ _ _ _ _ _ _ _ _ _ _ _ _ _ _ _ _ _ _ _ _ _ _ _ _ _ _ _ _ _ _ _ _ _ _ _ _ _ _ _ _ _ _ _ _ _ _ _ _ _ _ _ _ _ _ _ _ _ _ _ _ _ _ _ _ _ _ _ _ _ _ _ _ _ _ _ _ _ _ _ _ _ _ _ _ _ _ _ _ _ _ _ _ _ _ _ _ _ _ _ _ _ _ _ _ _ _ _ _ _ _ _ _ _ _ _ _ _ _ _ _ _ _ _ _ _ _ _ _ _ _ _ _ _ _ _ _ _ _ _ _ _ _ _ _ _ HN
      | false =>
        clear hok
        go_wp2
        exact HR.out _ _ ⟨⟨sz, false, ex, rfl, rfl, rfl, answer_no _ _ _ _⟩, HSm.out.bel⟩
    · subst h102
      go_wp2_with fail
      refine (zzHasAt_any a n cap hn v i hi ⟨#[102, 97, 108, 115, 101]⟩ (by decide) _ HB.out).mono ?_
      rintro e w' ⟨⟨ok, rfl, hok⟩, m, hw'⟩
      subst hw'
      simp only []
      have HS' := HS.out.drewN m
      have HSm : Hid (SI v n w (wr.drewN m) st i sz ex vs) := HS'
      clear HS' HB
      cases ok with
      | true =>
        have hl : i + 5 ≤ n := (hok rfl).1
        have k0 : v (i + 0) = 102 := (hok rfl).2 0 (by decide)
        have k1 : v (i + 1) = 97 := (hok rfl).2 1 (by decide)
        have k2 : v (i + 2) = 108 := (hok rfl).2 2 (by decide)
        have k3 : v (i + 3) = 115 := (hok rfl).2 3 (by decide)
        have k4 : v (i + 4) = 101 := (hok rfl).2 4 (by decide)
        have HK : Hid (Know v n 2 (i + 5) (sz + 5) ex) := HS.out.know.word hst hl fun s hr => hr.word5 hl k0 k1 k2 k3 k4 (by omega) (by omega) (by omega) (by omega) (by omega)
        clear hok k0 k1 k2 k3 k4
        go_upto_if 216 with fail
        refine wp_cond_true rfl ?_
        exact scan_word216 a n cap hn v w _ i hi 102 HV hc8 sz ex vs st hst HK HSm Q _ _ _ _ _ _ _ _ _ _ _ _ _ _ _ _ _ _ _ _ _ _ _ _ _ _ _ _ _ _ _ _ _ _ _ _ _ _ _ _ _ _ _ _ _ _ _ _ _ _ _ _ _ _ _ _ _ _ _ _ _ _ _ _ _ _ _ _ _ _ _ _ _ _ _ _ _ _ _ _ _ _ _ _ _ _ _ _ _ _ _ _ _ _ _ _ _ _ _ _ _ _ _ _ _ _ _ _ _ _ _ _ _ _ _ _ _ _ _ _ _ _ _ _ _ _ _ _ _ _ _ _ _ _ _ _ _ _ _ _ _ _ _ _ _ _ _ _ _ _ _ _ _ _ _ _ _ _ _ _ _ _ _ _ _ _ _ _ _ _ _ _ _ _ _ _ _ _ _ _ _ _ _ _ _ _ _ _ _ _ _ _ _ _ _ _ _ _ _ _ _ _ _ _ _ _ _ _ _ _ _ _ _ _ _ _ _ _ _ _ _ _ _ _ _ _ _ _ _ _ _ _ _ _ _ _ _ _ _ _ _ _ _ _ _ _ _ _ _ _ _ HN
      | false =>
        clear hok
        go_wp2
        exact HR.out _ _ ⟨⟨sz, false, ex, rfl, rfl, rfl, answer_no _ _ _ _⟩, HSm.out.bel⟩
    · subst h110
      go_wp2_with fail
      refine (zzHasAt_any a n cap hn v i hi ⟨#[110, 117, 108, 108]⟩ (by decide) _ HB.out).mono ?_
      rintro e w' ⟨⟨ok, rfl, hok⟩, m, hw'⟩
      subst hw'
      simp only []
      have HS' := HS.out.drewN m
      have HSm : Hid (SI v n w (wr.drewN m) st i sz ex vs) := HS'
      clear HS' HB
      cases ok with
      | true =>
        have hl : i + 4 ≤ n := (hok rfl).1
        have k0 : v (i + 0) = 110 := (hok rfl).2 0 (by decide)
        have k1 : v (i + 1) = 117 := (hok rfl).2 1 (by decide)
        have k2 : v (i + 2) = 108 := (hok rfl).2 2 (by decide)
        have k3 : v (i + 3) = 108 := (hok rfl).2 3 (by decide)
        have HK : Hid (Know v n 2 (i + 4) (sz + 4) ex) := HS.out.know.word hst hl fun s hr => hr.word4 hl k0 k1 k2 k3 (by omega) (by omega) (by omega) (by omega)
        clear hok k0 k1 k2 k3
        go_upto_if 227 with fail
        refine wp_cond_true rfl ?_
        exact scan_word227 a n cap hn v w _ i hi 110 HV hc8 sz ex vs st hst HK HSm Q _ _ _ _ _ _ _ _ _ _ _ _ _ _ _ _ _ _ _ _ _ _ _ _ _ _ _ _ _ _ _ _ _ _ _ _ _ _ _ _ _ _ _ _ _ _ _ _ _ _ _ _ _ _ _ _ _ _ _ _ _ _ _ _ _ _ _ _ _ _ _ _ _ _ _ _ _ _ _ _ _ _ _ _ _ _ _ _ _ _ _ _ _ _ _ _ _ _ _ _ _ _ _ _ _ _ _ _ _ _ _ _ _ _ _ _ _ _ _ _ _ _ _ _ _ _ _ _ _ _ _ _ _ _ _ _ _ _ _ _ _ _ _ _ _ _ _ _ _ _ _ _ _ _ _ _ _ _ _ _ _ _ _ _ _ _ _ _ _ _ _ _ _ _ _ _ _ _ _ _ _ _ _ _ _ _ _ _ _ _ _ _ _ _ _ _ _ _ _ _ _ _ _ _ _ _ _ _ _ _ _ _ _ _ _ _ _ _ _ _ _ _ _ _ _ _ _ _ _ _ _ _ _ _ _ _ _ _ _ _ _ _ _ _ _ _ _ _ _ _ _ HN
      | false =>
        clear hok
        go_wp2
        exact HR.out _ _ ⟨⟨sz, false, ex, rfl, rfl, rfl, answer_no _ _ _ _⟩, HSm.out.bel⟩
  by_cases h45 : c = 45
  · subst h45
    have HC : Hid (v i = 45 ∨ Dg (v i)) := Or.inl HV.out
    clear h123 h91 h34 hw
    go_upto_if 237 with fail
    refine wp_cond_true rfl ?_
    exact scan_num a n cap hn v w wr i hi 45 HV hc8 sz ex vs st hst HC HB HS Q _ _ _ _ _ _ _ _ _ _ _ _ _ _ _ _ _ _ _ _ _ _ _ _ _ _ _ _ _ _ _ _ _ _ _ _ _ _ _ _ _ _ _ _ _ _ _ _ _ _ _ _ _ _ _ _ _ _ _ _ _ _ _ _ _ _ _ _ _ _ _ _ _ _ _ _ _ _ _ _ _ _ _ _ _ _ _ _ _ _ _ _ _ _ _ _ _ _ _ _ _ _ _ _ _ _ _ _ _ _ _ _ _ _ _ _ _ _ _ _ _ _ _ _ _ _ _ _ _ _ _ _ _ _ _ _ _ _ _ _ _ _ _ _ _ _ _ _ _ _ _ _ _ _ _ _ _ _ _ _ _ _ _ _ _ _ _ _ _ _ _ _ _ _ _ _ _ _ _ _ _ _ _ _ _ _ _ _ _ _ _ _ _ _ _ _ _ _ _ _ _ _ _ _ _ _ _ _ _ _ _ _ _ _ _ _ _ _ _ _ _ _ _ _ _ _ _ _ _ _ _ _ _ _ _ _ _ _ _ _ _ _ _ _ _ _ _ _ _ _ _ HN HR
  have e1 : ((c : Int) == 123) = false := by rw [beq_eq_false_iff_ne]; omega
  have e2 : ((c : Int) == 91) = false := by rw [beq_eq_false_iff_ne]; omega
  have e3 : ((c : Int) == 34) = false := by rw [beq_eq_false_iff_ne]; omega
  have e4 : ((c : Int) == 116) = false := by rw [beq_eq_false_iff_ne]; omega
  have e5 : ((c : Int) == 102) = false := by rw [beq_eq_false_iff_ne]; omega
  have e6 : ((c : Int) == 110) = false := by rw [beq_eq_false_iff_ne]; omega
  have e7 : ((c : Int) == 45) = false := by rw [beq_eq_false_iff_ne]; omega
  clear h123 h91 h34 hw h45
  by_cases hd : Dg c
  · have Hd : Hid (Dg c) := hd
    have HC : Hid (v i = 45 ∨ Dg (v i)) := Or.inr (by rw [HV.out]; exact hd)
    clear hd
    go_upto_if 237 with (go_at_call 12; refine (zzIsDigit_yes c Hd.out _).mono ?_; rintro e w' ⟨rfl, hw'⟩; subst hw'; try simp only [])
    refine wp_cond_true rfl ?_
    exact scan_num a n cap hn v w _ i hi c HV hc8 sz ex vs st hst HC HB HS Q _ _ _ _ _ _ _ _ _ _ _ _ _ _ _ _ _ _ _ _ _ _ _ _ _ _ _ _ _ _ _ _ _ _ _ _ _ _ _ _ _ _ _ _ _ _ _ _ _ _ _ _ _ _ _ _ _ _ _ _ _ _ _ _ _ _ _ _ _ _ _ _ _ _ _ _ _ _ _ _ _ _ _ _ _ _ _ _ _ _ _ _ _ _ _ _ _ _ _ _ _ _ _ _ _ _ _ _ _ _ _ _ _ _ _ _ _ _ _ _ _ _ _ _ _ _ _ _ _ _ _ _ _ _ _ _ _ _ _ _ _ _ _ _ _ _ _ _ _ _ _ _ _ _ _ _ _ _ _ _ _ _ _ _ _ _ _ _ _ _ _ _ _ _ _ _ _ _ _ _ _ _ _ _ _ _ _ _ _ _ _ _ _ _ _ _ _ _ _ _ _ _ _ _ _ _ _ _ _ _ _ _ _ _ _ _ _ _ _ _ _ _ _ _ _ _ _ _ _ _ _ _ _ _ _ _ _ _ _ _ _ _ _ _ _ _ _ _ _ _ _ HN HR
  · have Hd : Hid (¬ Dg c) := hd
    clear hd
    go_wp2_with (go_at_call 12; refine (zzIsDigit_no c Hd.out _).mono ?_; rintro e w' ⟨rfl, hw'⟩; subst hw'; try simp only [])
    exact HR.out _ _ ⟨⟨sz, false, ex, rfl, rfl, rfl, answer_no _ _ _ _⟩, HS.out.bel⟩

end Go.Proofs.Qxb6602476a
