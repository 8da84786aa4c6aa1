/-
  THE SHELF's CONTRACTS AT THIS DUMP (seat b6603091a), as the guide's tool (lay-shelf, lay-plain) has laid them for this program: strings.Contains, HasPrefix, HasSuffix; cut to what the law uses.
-/
import Derived.Shelf.Strings.Search3
import Derived.Shelf.LaysM
import Derived.Shelf.Strings.Shaped
import Derived.Shelf.Strings.Prefix
import Derived.Test.Qxb6603091aProg
namespace Go.Proofs
open Go.Shelf
def Try.lays144_ren : Go.Shelf.Ren := ⟨fun | 144 => 32 | 143 => 35 | 219 => 36 | 217 => 37 | 225 => 38 | 224 => 39 | 267 => 40 | 266 => 41 | 314 => 42 | n => n, fun | 9 => 9 | 4 => 4 | 3 => 3 | 5 => 5 | 46 => 49 | 146 => 51 | 51 => 50 | n => n, fun | 1 => 0 | n => n⟩
theorem Try.lays144 : Go.Proofs.Lays.n144 Try.prog Try.lays144_ren := {
  mixed := by kernel_rfl
  f143 := Try.func35.trans (congrArg some (by kernel_rfl))
  f144 := Try.func32.trans (congrArg some (by kernel_rfl))
  f217 := Try.func37.trans (congrArg some (by kernel_rfl))
  f219 := Try.func36.trans (congrArg some (by kernel_rfl))
  f224 := Try.func39.trans (congrArg some (by kernel_rfl))
  f225 := Try.func38.trans (congrArg some (by kernel_rfl))
  f266 := Try.func41.trans (congrArg some (by kernel_rfl))
  f267 := Try.func40.trans (congrArg some (by kernel_rfl))
  f314 := Try.func42.trans (congrArg some (by kernel_rfl))
  t3 := Try.underlying3
  a3 := Try.isAgg3
  z3 := Try.sizeOf3
  v3 := Try.zeroValue3
  t4 := Try.underlying4
  a4 := Try.isAgg4
  z4 := Try.sizeOf4
  v4 := Try.zeroValue4
  t5 := Try.underlying5
  a5 := Try.isAgg5
  z5 := Try.sizeOf5
  v5 := Try.zeroValue5
  t9 := Try.underlying9
  a9 := Try.isAgg9
  z9 := Try.sizeOf9
  v9 := Try.zeroValue9
  t46 := Try.underlying49
  a46 := Try.isAgg49
  z46 := Try.sizeOf49
  v46 := Try.zeroValue49
  t51 := Try.underlying50
  a51 := Try.isAgg50
  z51 := Try.sizeOf50
  v51 := Try.zeroValue50
  t146 := Try.underlying51
  a146 := Try.isAgg51
  z146 := Try.sizeOf51
  v146 := Try.zeroValue51
  g1 := by kernel_rfl }
open Go.RowKit Go.Lib in
/-- strings.Contains: "Contains reports whether substr is within s.": IT RETURNS 'Lib.contains s substr'; the world is as it was. (LAID: no walk: one application.) -/
theorem Try.strings_Contains (s sub : ByteArray) (m : Int) (w : World) (hs : s.size < 4294967281) (hm : w.cell? ⟨0, 0, none⟩ = some (.int .i64 m)) :
    Calls Try.prog 32 #[.string s, .string sub] w fun e w' => e = .returned (.bool (Lib.contains s.data.toList sub.data.toList)) ∧ w' = w := Any.strings_Contains Try.lays144 s sub m w hs hm
def Try.laysM144_ren : Go.Shelf.Ren := ⟨fun | 144 => 32 | 143 => 35 | 219 => 36 | 217 => 37 | 225 => 38 | 224 => 39 | 267 => 40 | 266 => 41 | 314 => 42 | n => n, fun | 9 => 9 | 4 => 4 | 3 => 3 | 5 => 5 | 46 => 49 | 146 => 51 | 51 => 50 | n => n, fun | 1 => 0 | n => n⟩
theorem Try.laysM144 : Go.Proofs.LaysM.n144 Try.prog Try.laysM144_ren := {
  mixed := by kernel_rfl
  f143 := Try.func35.trans (congrArg some (by kernel_rfl))
  f144 := Try.func32.trans (congrArg some (by kernel_rfl))
  f217 := Try.func37.trans (congrArg some (by kernel_rfl))
  f219 := Try.func36.trans (congrArg some (by kernel_rfl))
  f224 := Try.func39.trans (congrArg some (by kernel_rfl))
  f225 := Try.func38.trans (congrArg some (by kernel_rfl))
  f266 := Try.func41.trans (congrArg some (by kernel_rfl))
  f267 := Try.func40.trans (congrArg some (by kernel_rfl))
  f314 := Try.func42.trans (congrArg some (by kernel_rfl))
  t3 := Try.underlying3
  a3 := Try.isAgg3
  z3 := Try.sizeOf3
  v3 := Try.zeroValue3
  t4 := Try.underlying4
  a4 := Try.isAgg4
  z4 := Try.sizeOf4
  v4 := Try.zeroValue4
  t5 := Try.underlying5
  a5 := Try.isAgg5
  z5 := Try.sizeOf5
  v5 := Try.zeroValue5
  t9 := Try.underlying9
  a9 := Try.isAgg9
  z9 := Try.sizeOf9
  v9 := Try.zeroValue9
  t46 := Try.underlying49
  a46 := Try.isAgg49
  z46 := Try.sizeOf49
  v46 := Try.zeroValue49
  t51 := Try.underlying50
  a51 := Try.isAgg50
  z51 := Try.sizeOf50
  v51 := Try.zeroValue50
  t146 := Try.underlying51
  a146 := Try.isAgg51
  z146 := Try.sizeOf51
  v146 := Try.zeroValue51
  g1 := by kernel_rfl
  i3 := by kernel_rfl
  i4 := by kernel_rfl
  i5 := by kernel_rfl
  i9 := by kernel_rfl
  i46 := by kernel_rfl
  i51 := by kernel_rfl
  i146 := by kernel_rfl
  m1 := by kernel_rfl
  s1_3 := fun w h => Go.Proofs.cell_of_shapedOpen_int (zero := #[.int .i64 0]) (t := 3) h (of_decide_eq_true (by kernel_rfl)) (by kernel_rfl) rfl (by kernel_rfl) (by kernel_rfl) Try.underlying3 }
def Try.lays99_ren : Go.Shelf.Ren := ⟨fun | 99 => 30 | 206 => 33 | n => n, fun | 9 => 9 | 4 => 4 | 3 => 3 | n => n, fun | n => n⟩
theorem Try.lays99 : Go.Proofs.Lays.n99 Try.prog Try.lays99_ren := {
  mixed := by kernel_rfl
  f99 := Try.func30.trans (congrArg some (by kernel_rfl))
  f206 := Try.func33.trans (congrArg some (by kernel_rfl))
  t3 := Try.underlying3
  a3 := Try.isAgg3
  z3 := Try.sizeOf3
  v3 := Try.zeroValue3
  t4 := Try.underlying4
  a4 := Try.isAgg4
  z4 := Try.sizeOf4
  v4 := Try.zeroValue4
  t9 := Try.underlying9
  a9 := Try.isAgg9
  z9 := Try.sizeOf9
  v9 := Try.zeroValue9 }
open Go.RowKit Go.Lib in
/-- strings.HasPrefix: "HasPrefix reports whether the string s begins with prefix.": IT RETURNS 'Lib.hasPrefix s prefix'; the world is as it was. (LAID: no walk: one application.) -/
theorem Try.strings_HasPrefix (s p : ByteArray) (w : World) :
    Calls Try.prog 30 #[.string s, .string p] w fun e w' => e = .returned (.bool (Lib.hasPrefix s.data.toList p.data.toList)) ∧ w' = w := Any.strings_HasPrefix Try.lays99 s p w
def Try.lays100_ren : Go.Shelf.Ren := ⟨fun | 100 => 31 | 207 => 34 | n => n, fun | 9 => 9 | 4 => 4 | 3 => 3 | n => n, fun | n => n⟩
theorem Try.lays100 : Go.Proofs.Lays.n100 Try.prog Try.lays100_ren := {
  mixed := by kernel_rfl
  f100 := Try.func31.trans (congrArg some (by kernel_rfl))
  f207 := Try.func34.trans (congrArg some (by kernel_rfl))
  t3 := Try.underlying3
  a3 := Try.isAgg3
  z3 := Try.sizeOf3
  v3 := Try.zeroValue3
  t4 := Try.underlying4
  a4 := Try.isAgg4
  z4 := Try.sizeOf4
  v4 := Try.zeroValue4
  t9 := Try.underlying9
  a9 := Try.isAgg9
  z9 := Try.sizeOf9
  v9 := Try.zeroValue9 }
open Go.RowKit Go.Lib in
/-- strings.HasSuffix: "HasSuffix reports whether the string s ends with suffix.": IT RETURNS 'Lib.hasSuffix s suffix'; the world is as it was. ('hs': no Go string is longer: a caller has it of every string that it was handed.) (LAID: no walk: one application.) -/
theorem Try.strings_HasSuffix (s p : ByteArray) (w : World) (hs : s.size ≤ 9223372036854775807) :
    Calls Try.prog 31 #[.string s, .string p] w fun e w' => e = .returned (.bool (Lib.hasSuffix s.data.toList p.data.toList)) ∧ w' = w := Any.strings_HasSuffix Try.lays100 s p w hs
end Go.Proofs

