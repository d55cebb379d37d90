/-
  DERIVED: laid by the shelf's one command, its plain mode, at this seat's dump: strings.IndexAny, s longer than eight bytes, chars of two or more ASCII bytes. Cut down by hand to that one contract.
-/
import Derived.Shelf.Strings.IndexAnyAll
import Derived.Test.Qxb6601839aProg
namespace Go.Proofs
open Go.Shelf
def Try.lays153_ren : Go.Shelf.Ren := ⟨fun | 153 => 23 | 152 => 25 | 226 => 26 | 227 => 27 | 228 => 28 | 137 => 30 | 119 => 31 | 224 => 32 | 225 => 33 | 217 => 35 | 266 => 36 | n => n, fun | 9 => 9 | 3 => 3 | 4 => 4 | 5 => 5 | 21 => 21 | 117 => 41 | 116 => 40 | 0 => 0 | 46 => 46 | 124 => 47 | n => n, fun | n => n⟩
theorem Try.lays153 : Go.Proofs.Lays.n153 Try.prog Try.lays153_ren := {
  mixed := by kernel_rfl
  f119 := Try.func31.trans (congrArg some (by kernel_rfl))
  f137 := Try.func30.trans (congrArg some (by kernel_rfl))
  f152 := Try.func25.trans (congrArg some (by kernel_rfl))
  f153 := Try.func23.trans (congrArg some (by kernel_rfl))
  f217 := Try.func35.trans (congrArg some (by kernel_rfl))
  f224 := Try.func32.trans (congrArg some (by kernel_rfl))
  f225 := Try.func33.trans (congrArg some (by kernel_rfl))
  f226 := Try.func26.trans (congrArg some (by kernel_rfl))
  f227 := Try.func27.trans (congrArg some (by kernel_rfl))
  f228 := Try.func28.trans (congrArg some (by kernel_rfl))
  f266 := Try.func36.trans (congrArg some (by kernel_rfl))
  t0 := Try.underlying0
  a0 := Try.isAgg0
  z0 := Try.sizeOf0
  v0 := Try.zeroValue0
  t3 := Try.underlying3
  a3 := Try.isAgg3
  z3 := Try.sizeOf3
  v3 := Try.zeroValue3
  t4 := Try.underlying4
  a4 := Try.isAgg4
  z4 := Try.sizeOf4
  v4 := Try.zeroValue4
  t5 := Try.underlying5
  a5 := Try.isAgg5
  z5 := Try.sizeOf5
  v5 := Try.zeroValue5
  t9 := Try.underlying9
  a9 := Try.isAgg9
  z9 := Try.sizeOf9
  v9 := Try.zeroValue9
  t21 := Try.underlying21
  a21 := Try.isAgg21
  z21 := Try.sizeOf21
  v21 := Try.zeroValue21
  t46 := Try.underlying46
  a46 := Try.isAgg46
  z46 := Try.sizeOf46
  v46 := Try.zeroValue46
  t116 := Try.underlying40
  a116 := Try.isAgg40
  z116 := Try.sizeOf40
  t117 := Try.underlying41
  a117 := Try.isAgg41
  z117 := Try.sizeOf41
  v117 := Try.zeroValue41
  t124 := Try.underlying47
  a124 := Try.isAgg47
  z124 := Try.sizeOf47
  v124 := Try.zeroValue47 }
open Go.RowKit Go.Lib in
theorem Try.strings_IndexAny_long (hv116 : ∀ w, (zeroValue 40).run Try.prog w = .ok (.agg (Array.replicate 256 (.bool false))) w) (s chars : ByteArray) (w : World) (h2 : 2 ≤ chars.size) (h8 : 8 < s.size) (hs : s.size < 4294967281) (hcs : chars.size < 4294967281) (hascii : ∀ (j : Nat) b, chars.data.toList[j]? = some b → b.toNat < 128) :
    Calls Try.prog 23 #[.string s, .string chars] w fun e w' => e = .returned (.int .i64 (Lib.indexAny s.data.toList chars.data.toList)) ∧ w' = ((w.alloc (.cells (Lib.setCells chars.data.toList) 40)).alloc (.cells (Lib.setCells chars.data.toList) 40)) := Any.strings_IndexAny_long Try.lays153 hv116 (by kernel_rfl) s chars w h2 h8 hs hcs hascii
end Go.Proofs
