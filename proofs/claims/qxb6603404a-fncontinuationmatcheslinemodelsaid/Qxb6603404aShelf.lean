/-
  THE SHELF's CONTRACTS AT THIS DUMP (seat b6603404a), as the guide's tool (lay-shelf, lay-plain) has laid them for this program: strings.Count at one byte, strings.HasPrefix; cut to what the law uses.
-/
import Derived.Shelf.Strings.Count
import Derived.Shelf.Strings.Prefix
import Derived.Test.Qxb6603404aProg
namespace Go.Proofs
open Go.Shelf
def Try.lays138_ren : Go.Shelf.Ren := ⟨fun | 138 => 34 | 195 => 37 | 218 => 38 | 143 => 39 | 219 => 41 | 217 => 42 | 225 => 43 | 224 => 44 | 267 => 45 | 266 => 46 | 314 => 47 | n => n, fun | 9 => 9 | 3 => 3 | 4 => 4 | 5 => 5 | 0 => 0 | 46 => 54 | 146 => 56 | 51 => 55 | n => n, fun | 1 => 0 | n => n⟩
theorem Try.lays138 : Go.Proofs.Lays.n138 Try.prog Try.lays138_ren := {
  mixed := by kernel_rfl
  f138 := Try.func34.trans (congrArg some (by kernel_rfl))
  f143 := Try.func39.trans (congrArg some (by kernel_rfl))
  f195 := Try.func37.trans (congrArg some (by kernel_rfl))
  f217 := Try.func42.trans (congrArg some (by kernel_rfl))
  f218 := Try.func38.trans (congrArg some (by kernel_rfl))
  f219 := Try.func41.trans (congrArg some (by kernel_rfl))
  f224 := Try.func44.trans (congrArg some (by kernel_rfl))
  f225 := Try.func43.trans (congrArg some (by kernel_rfl))
  f266 := Try.func46.trans (congrArg some (by kernel_rfl))
  f267 := Try.func45.trans (congrArg some (by kernel_rfl))
  f314 := Try.func47.trans (congrArg some (by kernel_rfl))
  t0 := Try.underlying0
  a0 := Try.isAgg0
  z0 := Try.sizeOf0
  v0 := Try.zeroValue0
  t3 := Try.underlying3
  a3 := Try.isAgg3
  z3 := Try.sizeOf3
  v3 := Try.zeroValue3
  t4 := Try.underlying4
  a4 := Try.isAgg4
  z4 := Try.sizeOf4
  v4 := Try.zeroValue4
  t5 := Try.underlying5
  a5 := Try.isAgg5
  z5 := Try.sizeOf5
  v5 := Try.zeroValue5
  t9 := Try.underlying9
  a9 := Try.isAgg9
  z9 := Try.sizeOf9
  v9 := Try.zeroValue9
  t46 := Try.underlying54
  a46 := Try.isAgg54
  z46 := Try.sizeOf54
  v46 := Try.zeroValue54
  t51 := Try.underlying55
  a51 := Try.isAgg55
  z51 := Try.sizeOf55
  v51 := Try.zeroValue55
  t146 := Try.underlying56
  a146 := Try.isAgg56
  z146 := Try.sizeOf56
  v146 := Try.zeroValue56
  g1 := by kernel_rfl }
open Go.RowKit Go.Lib in
/-- strings.Count AT A substr OF ONE BYTE ('hp'): "Count counts the number of non-overlapping instances of substr in s.": IT RETURNS 'Lib.countByte s (that byte)'; the world is as it was. ✋ NO CONTRACT HERE YET at an empty substr (utf8.RuneCountInString) or at a longer one (a loop over strings.Index). (LAID: no walk: one application.) -/
theorem Try.strings_Count_one (s : ByteArray) (c : UInt8) (w : World) :
    Calls Try.prog 34 #[.string s, .string ⟨#[c]⟩] w fun e w' => e = .returned (.int .i64 (Lib.countByte s.data.toList c)) ∧ w' = w := Any.strings_Count_one Try.lays138 s c w
def Try.lays99_ren : Go.Shelf.Ren := ⟨fun | 99 => 36 | 206 => 40 | n => n, fun | 9 => 9 | 4 => 4 | 3 => 3 | n => n, fun | n => n⟩
theorem Try.lays99 : Go.Proofs.Lays.n99 Try.prog Try.lays99_ren := {
  mixed := by kernel_rfl
  f99 := Try.func36.trans (congrArg some (by kernel_rfl))
  f206 := Try.func40.trans (congrArg some (by kernel_rfl))
  t3 := Try.underlying3
  a3 := Try.isAgg3
  z3 := Try.sizeOf3
  v3 := Try.zeroValue3
  t4 := Try.underlying4
  a4 := Try.isAgg4
  z4 := Try.sizeOf4
  v4 := Try.zeroValue4
  t9 := Try.underlying9
  a9 := Try.isAgg9
  z9 := Try.sizeOf9
  v9 := Try.zeroValue9 }
open Go.RowKit Go.Lib in
/-- strings.HasPrefix: "HasPrefix reports whether the string s begins with prefix.": IT RETURNS 'Lib.hasPrefix s prefix'; the world is as it was. (LAID: no walk: one application.) -/
theorem Try.strings_HasPrefix (s p : ByteArray) (w : World) :
    Calls Try.prog 36 #[.string s, .string p] w fun e w' => e = .returned (.bool (Lib.hasPrefix s.data.toList p.data.toList)) ∧ w' = w := Any.strings_HasPrefix Try.lays99 s p w
end Go.Proofs

