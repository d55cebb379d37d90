/-
  WALK: zzScanJSON, behind a value.
-/
import Derived.Test.Qxb6602476aNum5
import Derived.Test.Qxb6602476aScan
import Derived.WalkSmall
import Derived.OwnWalk
import Derived.Laws.OwnMore
namespace Go.Proofs.Qxb6602476a
open Go.RowKit Plain

noncomputable def scan52 : Code := ((Try.f25.body.bind (thenAt 52)).getD .skip)
theorem info5 : (Try.prog.info? 5).map (fun i => (i.zero, i.size, i.bytes)) = some (some (.int .u8 0), 1, 1) := by kernel_rfl

def bytesOf (xs : List Nat) : List Value := xs.map fun b : Nat => Value.int .u8 (b : Int)
/-- The scan's memory: what it knows, its stack. -/
structure SI (v : Nat → Nat) (n : Nat) (w wr : World) (st i : Nat) (sz : Int) (ex : Bool) (vs : Value) : Prop where
  know : Know v n st i sz ex
  stk : ∃ xs : List Nat, wr.ownsRow w.heap.size 5 1 vs xs.length (bytesOf xs) ∧ xs.length ≤ i ∧ ((st = 1 ∨ st = 3) → xs ≠ [])
  bel : Below w.heap.size w wr
/-- What zzScanJSON hands back. -/
def RetScan (v : Nat → Nat) (n : Nat) (w : World) (tmps : Array Value) (w2 : World) : Prop :=
  (∃ sz ok ex, tmps.getD 2 undef = .int .i64 sz ∧ tmps.getD 3 undef = .bool ok ∧ tmps.getD 4 undef = .bool ex ∧ Answer v n sz ok ex) ∧ Below w.heap.size w w2
theorem answer_no (v : Nat → Nat) (n : Nat) (sz : Int) (ex : Bool) : Answer v n sz false ex := fun h => by cases h
theorem ownsRow_len {w : World} {base : Nat} {e : TypeId} {size : Nat} {v : Value} {n : Nat} {xs : List Value} (h : w.ownsRow base e size v n xs) : ∃ ao c, v = .slice ao n c := by
  rcases h.2 with ⟨h2, h3⟩ | ⟨g, cap, cur, h2, _⟩
  · exact ⟨none, 0, by rw [h2, h3]⟩
  · exact ⟨_, _, h2⟩
/-- A stack that is not empty: its last byte, and itself without it. -/
theorem stack_top {w : World} {B : Nat} {vs : Value} {xs : List Nat} (h : w.ownsRow B 5 1 vs xs.length (bytesOf xs)) (hx : xs ≠ []) :
    ∃ (g cp k t : Nat) (ys : List Nat), vs = .slice (some ⟨g, 0, none⟩) (k + 1) cp ∧ k + 1 = xs.length ∧ k = ys.length ∧ k + 1 ≤ cp ∧ w.cell? ⟨g, k, none⟩ = some (.int .u8 (t : Int)) ∧ w.ownsRow B 5 1 (.slice (some ⟨g, 0, none⟩) k cp) ys.length (bytesOf ys) := by
  obtain ⟨ys, t, rfl⟩ : ∃ ys t, xs = ys ++ [t] := ⟨xs.dropLast, xs.getLast hx, (List.dropLast_concat_getLast hx).symm⟩
  rw [List.length_append, List.length_singleton, show bytesOf (ys ++ [t]) = bytesOf ys ++ [Value.int .u8 (t : Int)] by simp [bytesOf]] at h
  have h2 := h.2
  rcases h2 with ⟨_, h0⟩ | ⟨g, cap, cur, rfl, _, _, hcap, _⟩
  · omega
  · refine ⟨g, cap, ys.length, t, ys, rfl, by simp, rfl, hcap, ?_, ownsRow_pop (by simp [bytesOf]) h⟩
    rw [h.cellAt ys.length (by omega)]
    simp [bytesOf]

set_option linter.unusedVariables false in
set_option maxRecDepth 1000000 in
set_option maxHeartbeats 4000000 in
theorem scan_behind (a : Option Addr) (n cap : Nat) (hn : n ≤ 2097152) (v : Nat → Nat) (w wr : World) (i : Nat) (hi : i < n) (c : Nat) (HV : Hid (v i = c)) (hc8 : c < 256) (sz : Int) (ex : Bool) (vs : Value)
    (HS : Hid (SI v n w wr 2 i sz ex vs)) (Q : Exit → Act → World → Prop) (c1 c2 c3 c4 c12 c13 c14 c15 c16 c17 c18 c19 c20 c21 c22 c23 c24 c25 c26 c27 c28 c29 c30 c31 c32 c33 c34 c35 c36 c37 c38 c39 c40 c41 c42 c43 c44 c45 c46 c47 c48 c49 c50 c51 c52 c53 c54 c55 c56 c57 c58 c59 c60 c61 c62 c63 c64 c65 c66 c67 c68 c69 c70 c71 c72 c73 c74 c75 c76 c77 c78 c79 c80 c81 c82 c83 c84 c85 c86 c87 c88 c89 c90 c91 c92 c93 c94 c95 c96 c97 c98 c99 c100 c101 c102 c103 c104 c105 c106 c107 c108 c109 c110 c111 c112 c113 c114 c115 c116 c117 c118 c119 c120 c121 c122 c123 c124 c125 c126 c127 c128 c129 c130 c131 c132 c133 c134 c135 c136 c137 c138 c139 c140 c141 c142 c143 c144 c145 c146 c147 c148 c149 c150 c151 c152 c153 c154 c155 c156 c157 c158 c159 c160 c161 c162 c163 c164 c165 c166 c167 c168 c169 c170 c171 c172 c173 c174 c175 c176 c177 c178 c179 c180 c181 c182 c183 c184 c185 c186 c187 c188 c189 c190 c191 c192 c193 c194 c195 c196 c197 c198 c199 c200 c201 c202 c203 c204 c205 c206 c207 c208 c209 c210 c211 c212 c213 c214 c215 c216 c217 c218 c219 c220 c221 c222 c223 c224 c225 c226 c227 c228 c229 c230 c231 c232 c233 c234 c235 c236 c237 c238 c239 c240 c241 c242 c243 c244 c245 c246 c247 c248 c249 c250 c251 c252 c253 c254 c255 c256 c257 : Value)
    (HX : Hid (∀ (st2 i2 : Nat) (sz2 : Int) (ex2 : Bool) (s6 s9 s10 vs2 : Value) (w2 : World) (u2 u3 u4 u11 u12 u13 u14 u15 u16 u17 u18 u19 u20 u23 u24 u25 u26 u27 u28 u29 u30 u31 u32 u33 u34 u35 u36 u37 u38 u39 u40 u41 u42 u43 u44 u45 u46 u47 u48 u49 u50 u51 u52 u53 u54 u55 u56 u57 u58 u59 u60 u61 u62 u63 u64 u65 u66 u67 u68 u69 u70 u71 u72 u73 u74 u75 u76 u77 u78 u79 u80 u81 u82 u83 u84 u85 u86 u87 u88 u89 u90 u91 u92 u93 u94 u95 u96 u97 u98 u99 u100 u101 u102 u103 u104 u105 u106 u107 u108 u109 u110 u111 u112 u113 u114 u115 u116 u117 u118 u119 u120 u121 u122 u123 u124 u125 u126 u127 u128 u129 u130 u131 u132 u133 u134 u135 u136 u137 u138 u139 u140 u141 u142 u143 u144 u145 u146 u147 u148 u149 u150 u151 u152 u153 u154 u155 u156 u157 u158 u159 u160 u161 u162 u163 u164 u165 u166 u167 u168 u169 u170 u171 u172 u173 u174 u175 u176 u177 u178 u179 u180 u181 u182 u183 u184 u185 u186 u187 u188 u189 u190 u191 u192 u193 u194 u195 u196 u197 u198 u199 u200 u201 u202 u203 u204 u205 u206 u207 u208 u209 u210 u211 u212 u213 u214 u215 u216 u217 u218 u219 u220 u221 u222 u223 u224 u225 u226 u227 u228 u229 u230 u231 u232 u233 u234 u235 u236 u237 u238 u239 u240 u241 u242 u243 u244 u245 u246 u247 u248 u249 u250 u251 u252 u253 u254 u255 u256 u257 : Value), s6 = .int .i64 sz2 → s9 = .int .i64 st2 → s10 = .int .i64 i2 → i < i2 → SI v n w w2 st2 i2 sz2 ex2 vs2 → Q (.exit 1) ⟨#[.slice a n cap, c1, u2, u3, u4, .int .i64 n, s6, .bool ex2, vs2, s9, s10, u11, u12, u13, u14, u15, u16, u17, u18, u19, u20, c21, c22, u23, u24, u25, u26, u27, u28, u29, u30, u31, u32, u33, u34, u35, u36, u37, u38, u39, u40, u41, u42, u43, u44, u45, u46, u47, u48, u49, u50, u51, u52, u53, u54, u55, u56, u57, u58, u59, u60, u61, u62, u63, u64, u65, u66, u67, u68, u69, u70, u71, u72, u73, u74, u75, u76, u77, u78, u79, u80, u81, u82, u83, u84, u85, u86, u87, u88, u89, u90, u91, u92, u93, u94, u95, u96, u97, u98, u99, u100, u101, u102, u103, u104, u105, u106, u107, u108, u109, u110, u111, u112, u113, u114, u115, u116, u117, u118, u119, u120, u121, u122, u123, u124, u125, u126, u127, u128, u129, u130, u131, u132, u133, u134, u135, u136, u137, u138, u139, u140, u141, u142, u143, u144, u145, u146, u147, u148, u149, u150, u151, u152, u153, u154, u155, u156, u157, u158, u159, u160, u161, u162, u163, u164, u165, u166, u167, u168, u169, u170, u171, u172, u173, u174, u175, u176, u177, u178, u179, u180, u181, u182, u183, u184, u185, u186, u187, u188, u189, u190, u191, u192, u193, u194, u195, u196, u197, u198, u199, u200, u201, u202, u203, u204, u205, u206, u207, u208, u209, u210, u211, u212, u213, u214, u215, u216, u217, u218, u219, u220, u221, u222, u223, u224, u225, u226, u227, u228, u229, u230, u231, u232, u233, u234, u235, u236, u237, u238, u239, u240, u241, u242, u243, u244, u245, u246, u247, u248, u249, u250, u251, u252, u253, u254, u255, u256, u257], []⟩ w2))
    (HR : Hid (∀ (tmps : Array Value) (w2 : World), RetScan v n w tmps w2 → Q .ret ⟨tmps, []⟩ w2)) :
    Code.wp Try.prog scan52 Q ⟨#[.slice a n cap, c1, c2, c3, c4, .int .i64 n, .int .i64 sz, .bool ex, vs, .int .i64 2, .int .i64 i, .int .u8 c, c12, c13, c14, c15, c16, c17, c18, c19, c20, c21, c22, c23, c24, c25, c26, c27, c28, c29, c30, c31, c32, c33, c34, c35, c36, c37, c38, c39, c40, c41, c42, c43, c44, c45, c46, c47, c48, c49, c50, c51, c52, c53, c54, c55, c56, c57, c58, c59, c60, c61, c62, c63, c64, c65, c66, c67, c68, c69, c70, c71, c72, c73, c74, c75, c76, c77, c78, c79, c80, c81, c82, c83, c84, c85, c86, c87, c88, c89, c90, c91, c92, c93, c94, c95, c96, c97, c98, c99, c100, c101, c102, c103, c104, c105, c106, c107, c108, c109, c110, c111, c112, c113, c114, c115, c116, c117, c118, c119, c120, c121, c122, c123, c124, c125, c126, c127, c128, c129, c130, c131, c132, c133, c134, c135, c136, c137, c138, c139, c140, c141, c142, c143, c144, c145, c146, c147, c148, c149, c150, c151, c152, c153, c154, c155, c156, c157, c158, c159, c160, c161, c162, c163, c164, c165, c166, c167, c168, c169, c170, c171, c172, c173, c174, c175, c176, c177, c178, c179, c180, c181, c182, c183, c184, c185, c186, c187, c188, c189, c190, c191, c192, c193, c194, c195, c196, c197, c198, c199, c200, c201, c202, c203, c204, c205, c206, c207, c208, c209, c210, c211, c212, c213, c214, c215, c216, c217, c218, c219, c220, c221, c222, c223, c224, c225, c226, c227, c228, c229, c230, c231, c232, c233, c234, c235, c236, c237, c238, c239, c240, c241, c242, c243, c244, c245, c246, c247, c248, c249, c250, c251, c252, c253, c254, c255, c256, c257], []⟩ wr := by
  conv => arg 2; whnf
  have hlo := HS.out.know.lo
  have hhi := HS.out.know.hi
  obtain ⟨xs, hown, hxl, _⟩ := HS.out.stk
  by_cases hx : xs = []
  · subst hx
    obtain ⟨ao, cp, rfl⟩ := ownsRow_len hown
    clear hown
    go_wp2
    exact HR.out _ _ ⟨⟨sz, false, ex, rfl, rfl, rfl, answer_no _ _ _ _⟩, HS.out.bel⟩
  · obtain ⟨g, cp, k, t, ys, rfl, hk1, hk2, hkc, hct, hown2⟩ := stack_top hown hx
    have HO : Hid (wr.ownsRow w.heap.size 5 1 (.slice (some ⟨g, 0, none⟩) k cp) ys.length (bytesOf ys)) := hown2
    have HO2 : Hid (wr.ownsRow w.heap.size 5 1 (.slice (some ⟨g, 0, none⟩) (k + 1) cp) xs.length (bytesOf xs)) := hown
    have hkn : k < n := by omega
    have Hk : Hid (k + 1 = xs.length ∧ k = ys.length) := ⟨hk1, hk2⟩
    have hki : k + 1 ≤ i := by omega
    clear hown hown2 hk1 hk2 hxl
    by_cases h44 : c = 44
    · subst h44
      have HK : ∀ st', st' ≤ 5 → Know v n st' (i + 1) (sz + 1) ex := fun st' h => HS.out.know.behind hi HV.out (Or.inl rfl) h
      have HK' : Hid (∀ st', st' ≤ 5 → Know v n st' (i + 1) (sz + 1) ex) := HK
      clear HK
      by_cases h91 : t = 91
      · subst h91
        go_wp2
        exact HX.out 0 (i + 1) (sz + 1) ex _ _ _ _ _ _ _ _ _ _ _ _ _ _ _ _ _ _ _ _ _ _ _ _ _ _ _ _ _ _ _ _ _ _ _ _ _ _ _ _ _ _ _ _ _ _ _ _ _ _ _ _ _ _ _ _ _ _ _ _ _ _ _ _ _ _ _ _ _ _ _ _ _ _ _ _ _ _ _ _ _ _ _ _ _ _ _ _ _ _ _ _ _ _ _ _ _ _ _ _ _ _ _ _ _ _ _ _ _ _ _ _ _ _ _ _ _ _ _ _ _ _ _ _ _ _ _ _ _ _ _ _ _ _ _ _ _ _ _ _ _ _ _ _ _ _ _ _ _ _ _ _ _ _ _ _ _ _ _ _ _ _ _ _ _ _ _ _ _ _ _ _ _ _ _ _ _ _ _ _ _ _ _ _ _ _ _ _ _ _ _ _ _ _ _ _ _ _ _ _ _ _ _ _ _ _ _ _ _ _ _ _ _ _ _ _ _ _ _ _ _ _ _ _ _ _ _ _ _ _ _ _ _ _ _ _ _ _ _ _ _ _ _ _ _ _ _ _ _ _ _ _ _ (by go_num) (by go_num) (by go_num) (by omega) ⟨HK'.out 0 (by omega), ⟨xs, HO2.out, by have := Hk.out; omega, fun h => by omega⟩, HS.out.bel⟩
      · have e91 : ((t : Int) == 91) = false := by rw [beq_eq_false_iff_ne]; omega
        clear h91
        go_wp2
        exact HX.out 4 (i + 1) (sz + 1) ex _ _ _ _ _ _ _ _ _ _ _ _ _ _ _ _ _ _ _ _ _ _ _ _ _ _ _ _ _ _ _ _ _ _ _ _ _ _ _ _ _ _ _ _ _ _ _ _ _ _ _ _ _ _ _ _ _ _ _ _ _ _ _ _ _ _ _ _ _ _ _ _ _ _ _ _ _ _ _ _ _ _ _ _ _ _ _ _ _ _ _ _ _ _ _ _ _ _ _ _ _ _ _ _ _ _ _ _ _ _ _ _ _ _ _ _ _ _ _ _ _ _ _ _ _ _ _ _ _ _ _ _ _ _ _ _ _ _ _ _ _ _ _ _ _ _ _ _ _ _ _ _ _ _ _ _ _ _ _ _ _ _ _ _ _ _ _ _ _ _ _ _ _ _ _ _ _ _ _ _ _ _ _ _ _ _ _ _ _ _ _ _ _ _ _ _ _ _ _ _ _ _ _ _ _ _ _ _ _ _ _ _ _ _ _ _ _ _ _ _ _ _ _ _ _ _ _ _ _ _ _ _ _ _ _ _ _ _ _ _ _ _ _ _ _ _ _ _ _ _ _ _ _ (by go_num) (by go_num) (by go_num) (by omega) ⟨HK'.out 4 (by omega), ⟨xs, HO2.out, by have := Hk.out; omega, fun h => by omega⟩, HS.out.bel⟩
    · have e44 : ((c : Int) == 44) = false := by rw [beq_eq_false_iff_ne]; omega
      by_cases hcl : (t = 91 ∧ c = 93) ∨ (t = 123 ∧ c = 125)
      · have HK : Hid (Know v n 2 (i + 1) (sz + 1) ex) := HS.out.know.behind hi HV.out (by omega) (by omega)
        rcases hcl with ⟨rfl, rfl⟩ | ⟨rfl, rfl⟩
        · go_wp2
          exact HX.out 2 (i + 1) (sz + 1) ex _ _ _ _ _ _ _ _ _ _ _ _ _ _ _ _ _ _ _ _ _ _ _ _ _ _ _ _ _ _ _ _ _ _ _ _ _ _ _ _ _ _ _ _ _ _ _ _ _ _ _ _ _ _ _ _ _ _ _ _ _ _ _ _ _ _ _ _ _ _ _ _ _ _ _ _ _ _ _ _ _ _ _ _ _ _ _ _ _ _ _ _ _ _ _ _ _ _ _ _ _ _ _ _ _ _ _ _ _ _ _ _ _ _ _ _ _ _ _ _ _ _ _ _ _ _ _ _ _ _ _ _ _ _ _ _ _ _ _ _ _ _ _ _ _ _ _ _ _ _ _ _ _ _ _ _ _ _ _ _ _ _ _ _ _ _ _ _ _ _ _ _ _ _ _ _ _ _ _ _ _ _ _ _ _ _ _ _ _ _ _ _ _ _ _ _ _ _ _ _ _ _ _ _ _ _ _ _ _ _ _ _ _ _ _ _ _ _ _ _ _ _ _ _ _ _ _ _ _ _ _ _ _ _ _ _ _ _ _ _ _ _ _ _ _ _ _ _ _ _ _ _ _ (by go_num) (by go_num) (by go_num) (by omega) ⟨HK.out, ⟨ys, HO.out, by have := Hk.out; omega, fun h => by omega⟩, HS.out.bel⟩
        · go_wp2
          exact HX.out 2 (i + 1) (sz + 1) ex _ _ _ _ _ _ _ _ _ _ _ _ _ _ _ _ _ _ _ _ _ _ _ _ _ _ _ _ _ _ _ _ _ _ _ _ _ _ _ _ _ _ _ _ _ _ _ _ _ _ _ _ _ _ _ _ _ _ _ _ _ _ _ _ _ _ _ _ _ _ _ _ _ _ _ _ _ _ _ _ _ _ _ _ _ _ _ _ _ _ _ _ _ _ _ _ _ _ _ _ _ _ _ _ _ _ _ _ _ _ _ _ _ _ _ _ _ _ _ _ _ _ _ _ _ _ _ _ _ _ _ _ _ _ _ _ _ _ _ _ _ _ _ _ _ _ _ _ _ _ _ _ _ _ _ _ _ _ _ _ _ _ _ _ _ _ _ _ _ _ _ _ _ _ _ _ _ _ _ _ _ _ _ _ _ _ _ _ _ _ _ _ _ _ _ _ _ _ _ _ _ _ _ _ _ _ _ _ _ _ _ _ _ _ _ _ _ _ _ _ _ _ _ _ _ _ _ _ _ _ _ _ _ _ _ _ _ _ _ _ _ _ _ _ _ _ _ _ _ _ _ _ _ (by go_num) (by go_num) (by go_num) (by omega) ⟨HK.out, ⟨ys, HO.out, by have := Hk.out; omega, fun h => by omega⟩, HS.out.bel⟩
      · have HCL : Hid (¬ ((t = 91 ∧ c = 93) ∨ (t = 123 ∧ c = 125))) := hcl
        have e : (((t : Int) == 91) = false ∧ ((t : Int) == 123) = false) ∨ (((t : Int) == 91) = true ∧ ((c : Int) == 93) = false ∧ ((t : Int) == 123) = false) ∨ (((t : Int) == 91) = false ∧ ((t : Int) == 123) = true ∧ ((c : Int) == 125) = false) := by
          simp only [beq_eq_false_iff_ne, beq_iff_eq]
          omega
        clear hcl h44 HCL
        rcases e with ⟨e1, e2⟩ | ⟨e1, e2, e3⟩ | ⟨e1, e2, e3⟩
        all_goals
          go_wp2
          exact HR.out _ _ ⟨⟨sz, false, ex, rfl, rfl, rfl, answer_no _ _ _ _⟩, HS.out.bel⟩

end Go.Proofs.Qxb6602476a
