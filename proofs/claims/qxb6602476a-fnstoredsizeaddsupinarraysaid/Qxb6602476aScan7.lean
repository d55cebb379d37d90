/-
  WALK: zzScanJSON.
-/
import Derived.Test.Qxb6602476aScan6
namespace Go.Proofs.Qxb6602476a
open Go.RowKit Plain

/-- What zzScanJSON hands back. -/
def ScanBack (v : Nat → Nat) (n : Nat) (e : Ending) : Prop :=
  ∃ sz ok ex, e = .returned (.tuple #[.int .i64 sz, .bool ok, .bool ex]) ∧ Answer v n sz ok ex
theorem RetScan.back {v : Nat → Nat} {n : Nat} {w w2 : World} {tmps : Array Value} (h : RetScan v n w tmps w2) : ScanBack v n (.returned (.tuple #[tmps.getD 2 undef, tmps.getD 3 undef, tmps.getD 4 undef])) ∧ Below w.heap.size w w2 := by
  obtain ⟨⟨sz, ok, ex, h1, h2, h3, h4⟩, hb⟩ := h
  rw [h1, h2, h3]
  exact ⟨⟨sz, ok, ex, rfl, h4⟩, hb⟩
theorem si_start (v : Nat → Nat) (n : Nat) (w : World) : SI v n w w 0 0 0 true (.slice none 0 0) :=
  ⟨Know.start v n, ⟨[], World.ownsRow_nil _ _ _ _, Nat.le_refl _, fun h => by omega⟩, Below.refl _ _⟩

set_option maxRecDepth 1000000 in
set_option maxHeartbeats 4000000 in
theorem zzScanJSON_any (a : Option Addr) (n cap : Nat) (hn : n ≤ 2097152) (v : Nat → Nat) (w : World) (hb : Bts w a n v) :
    Calls Try.prog 25 #[.slice a n cap] w fun e w' => ScanBack v n e ∧ Below w.heap.size w w' := by
  have HB0 : Hid (Bts w a n v) := hb
  clear hb
  go_enter Try.func25, Try.ntmps25
  go_wp2
  go_loopg [6, 7, 8, 9, 10] n (fun g s6 s7 s8 s9 s10 wr => ∃ (st i : Nat) (sz : Int) (ex : Bool), s6 = .int .i64 sz ∧ s7 = .bool ex ∧ s9 = .int .i64 st ∧ s10 = .int .i64 i ∧ i + g = n ∧ SI v n w wr st i sz ex s8)
  case atStart => exact ⟨0, 0, 0, true, rfl, rfl, rfl, rfl, by omega, si_start v n w⟩
  case round =>
    obtain ⟨st, i, sz, ex, rfl, rfl, rfl, rfl, hig, hsi⟩ := hrel
    have HB : Hid (Bts wr a n v) := HB0.out.below hsi.bel
    refine wp_block ?_
    refine scan_round a n cap hn v w wr i (by omega) sz ex _ st HB hsi _ _ _ _ _ _ _ _ _ _ _ _ _ _ _ _ _ _ _ _ _ _ _ _ _ _ _ _ _ _ _ _ _ _ _ _ _ _ _ _ _ _ _ _ _ _ _ _ _ _ _ _ _ _ _ _ _ _ _ _ _ _ _ _ _ _ _ _ _ _ _ _ _ _ _ _ _ _ _ _ _ _ _ _ _ _ _ _ _ _ _ _ _ _ _ _ _ _ _ _ _ _ _ _ _ _ _ _ _ _ _ _ _ _ _ _ _ _ _ _ _ _ _ _ _ _ _ _ _ _ _ _ _ _ _ _ _ _ _ _ _ _ _ _ _ _ _ _ _ _ _ _ _ _ _ _ _ _ _ _ _ _ _ _ _ _ _ _ _ _ _ _ _ _ _ _ _ _ _ _ _ _ _ _ _ _ _ _ _ _ _ _ _ _ _ _ _ _ _ _ _ _ _ _ _ _ _ _ _ _ _ _ _ _ _ _ _ _ _ _ _ _ _ _ _ _ _ _ _ _ _ _ _ _ _ _ _ _ _ _ _ _ _ _ _ _ _ _ _ _ _ _ ?_ ?_ ?_
    · intro st2 i2 sz2 ex2 s6 s9 s10 vs2 w2 u2 u3 u4 u11 u12 u13 u14 u15 u16 u17 u18 u19 u20 u23 u24 u25 u26 u27 u28 u29 u30 u31 u32 u33 u34 u35 u36 u37 u38 u39 u40 u41 u42 u43 u44 u45 u46 u47 u48 u49 u50 u51 u52 u53 u54 u55 u56 u57 u58 u59 u60 u61 u62 u63 u64 u65 u66 u67 u68 u69 u70 u71 u72 u73 u74 u75 u76 u77 u78 u79 u80 u81 u82 u83 u84 u85 u86 u87 u88 u89 u90 u91 u92 u93 u94 u95 u96 u97 u98 u99 u100 u101 u102 u103 u104 u105 u106 u107 u108 u109 u110 u111 u112 u113 u114 u115 u116 u117 u118 u119 u120 u121 u122 u123 u124 u125 u126 u127 u128 u129 u130 u131 u132 u133 u134 u135 u136 u137 u138 u139 u140 u141 u142 u143 u144 u145 u146 u147 u148 u149 u150 u151 u152 u153 u154 u155 u156 u157 u158 u159 u160 u161 u162 u163 u164 u165 u166 u167 u168 u169 u170 u171 u172 u173 u174 u175 u176 u177 u178 u179 u180 u181 u182 u183 u184 u185 u186 u187 u188 u189 u190 u191 u192 u193 u194 u195 u196 u197 u198 u199 u200 u201 u202 u203 u204 u205 u206 u207 u208 u209 u210 u211 u212 u213 u214 u215 u216 u217 u218 u219 u220 u221 u222 u223 u224 u225 u226 u227 u228 u229 u230 u231 u232 u233 u234 u235 u236 u237 u238 u239 u240 u241 u242 u243 u244 u245 u246 u247 u248 u249 u250 u251 u252 u253 u254 u255 u256 u257 h6 h9 h10 hlt h
      subst h6 h9 h10
      have HS2 : Hid (SI v n w w2 st2 i2 sz2 ex2 vs2) := h
      have hin2 := h.know.inn
      clear hsi HB HB0 h
      go_wp2
      go_roundg (n - i2)
      case measure => omega
      case rel => exact ⟨st2, i2, sz2, ex2, rfl, rfl, rfl, rfl, by omega, HS2.out⟩
    · intro st2 i2 sz2 ex2 s6 s9 s10 vs2 w2 u2 u3 u4 u11 u12 u13 u14 u15 u16 u17 u18 u19 u20 u23 u24 u25 u26 u27 u28 u29 u30 u31 u32 u33 u34 u35 u36 u37 u38 u39 u40 u41 u42 u43 u44 u45 u46 u47 u48 u49 u50 u51 u52 u53 u54 u55 u56 u57 u58 u59 u60 u61 u62 u63 u64 u65 u66 u67 u68 u69 u70 u71 u72 u73 u74 u75 u76 u77 u78 u79 u80 u81 u82 u83 u84 u85 u86 u87 u88 u89 u90 u91 u92 u93 u94 u95 u96 u97 u98 u99 u100 u101 u102 u103 u104 u105 u106 u107 u108 u109 u110 u111 u112 u113 u114 u115 u116 u117 u118 u119 u120 u121 u122 u123 u124 u125 u126 u127 u128 u129 u130 u131 u132 u133 u134 u135 u136 u137 u138 u139 u140 u141 u142 u143 u144 u145 u146 u147 u148 u149 u150 u151 u152 u153 u154 u155 u156 u157 u158 u159 u160 u161 u162 u163 u164 u165 u166 u167 u168 u169 u170 u171 u172 u173 u174 u175 u176 u177 u178 u179 u180 u181 u182 u183 u184 u185 u186 u187 u188 u189 u190 u191 u192 u193 u194 u195 u196 u197 u198 u199 u200 u201 u202 u203 u204 u205 u206 u207 u208 u209 u210 u211 u212 u213 u214 u215 u216 u217 u218 u219 u220 u221 u222 u223 u224 u225 u226 u227 u228 u229 u230 u231 u232 u233 u234 u235 u236 u237 u238 u239 u240 u241 u242 u243 u244 u245 u246 u247 u248 u249 u250 u251 u252 u253 u254 u255 u256 u257 h6 h9 h10 hlt h
      subst h6 h9 h10
      have HS2 : Hid (SI v n w w2 st2 i2 sz2 ex2 vs2) := h
      have hin2 := h.know.inn
      clear hsi HB HB0 h
      go_wp2
      go_roundg (n - i2)
      case measure => omega
      case rel => exact ⟨st2, i2, sz2, ex2, rfl, rfl, rfl, rfl, by omega, HS2.out⟩
    · intro tmps w2 h
      go_ret3
      exact h.back

end Go.Proofs.Qxb6602476a
