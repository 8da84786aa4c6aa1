/-
  THE WALKS OF (pattern).covers, a form at a time (seat b6603091a).
-/
import Derived.Test.Qxb6603091aRows
import Derived.Test.Qxb6603091aShelf
import Derived.WalkKit
import Derived.WalkSpells
namespace Go.Proofs.Qxb6603091a
open Go.RowKit

set_option maxHeartbeats 400000 in
theorem cov1 (t v : ByteArray) (w : World) :
    Calls Try.prog 28 #[.agg #[.int .u8 1, .string t], .string v] w fun e w' => e = .returned (.bool (Lib.hasPrefix v.data.toList t.data.toList)) ∧ Grown w w' := by
  go_enter Try.func28, Try.ntmps28
  go_wp2_with (go_at_call 30; refine (Try.strings_HasPrefix _ _ _).mono ?_; rintro e w' ⟨rfl, rfl⟩)
  go_ret
  exact ⟨rfl, by repeat (first | exact Grown.refl _ | apply Grown.drew | apply Grown.alloc)⟩

set_option maxHeartbeats 400000 in
theorem cov2 (t v : ByteArray) (w : World) (hv : v.size ≤ 9223372036854775807) :
    Calls Try.prog 28 #[.agg #[.int .u8 2, .string t], .string v] w fun e w' => e = .returned (.bool (Lib.hasSuffix v.data.toList t.data.toList)) ∧ Grown w w' := by
  go_enter Try.func28, Try.ntmps28
  go_wp2_with (go_at_call 31; refine (Try.strings_HasSuffix _ _ _ hv).mono ?_; rintro e w' ⟨rfl, rfl⟩)
  go_ret
  exact ⟨rfl, by repeat (first | exact Grown.refl _ | apply Grown.drew | apply Grown.alloc)⟩

set_option maxHeartbeats 400000 in
theorem cov3 (t v : ByteArray) (w : World) (m : Int) (hm : w.cell? ⟨0, 0, none⟩ = some (.int .i64 m)) (hv : v.size < 4294967281) :
    Calls Try.prog 28 #[.agg #[.int .u8 3, .string t], .string v] w fun e w' => e = .returned (.bool (Lib.contains v.data.toList t.data.toList)) ∧ Grown w w' := by
  have hm' : ∀ o, (w.alloc o).cell? ⟨0, 0, none⟩ = some (.int .i64 m) := fun o => by
    rw [World.cell?_alloc_old _ _ _ (by have := World.block_lt_of_cell? _ _ hm; show 0 ≠ w.heap.size; omega)]; exact hm
  have HM : Hid (∀ o, (w.alloc o).cell? ⟨0, 0, none⟩ = some (.int .i64 m)) := hm'
  clear hm' hm
  go_enter Try.func28, Try.ntmps28
  go_wp2_with (go_at_call 32; refine (Try.strings_Contains _ _ m _ hv (HM.out _)).mono ?_; rintro e w' ⟨rfl, rfl⟩)
  go_ret
  exact ⟨rfl, by repeat (first | exact Grown.refl _ | apply Grown.drew | apply Grown.alloc)⟩

set_option maxHeartbeats 400000 in
theorem cov4 (t v : ByteArray) (w : World) :
    Calls Try.prog 28 #[.agg #[.int .u8 4, .string t], .string v] w fun e w' => e = .returned (.bool true) ∧ Grown w w' := by
  go_enter Try.func28, Try.ntmps28
  go_wp2_with fail
  go_ret
  exact ⟨rfl, by repeat (first | exact Grown.refl _ | apply Grown.drew | apply Grown.alloc)⟩

set_option maxHeartbeats 400000 in
theorem cov5 (t v : ByteArray) (w : World) :
    Calls Try.prog 28 #[.agg #[.int .u8 5, .string t], .string v] w fun e w' => e = .returned (.bool (!v.toList.isEmpty)) ∧ Grown w w' := by
  go_enter Try.func28, Try.ntmps28
  go_wp2_with fail
  go_ret
  exact ⟨rfl, by repeat (first | exact Grown.refl _ | apply Grown.drew | apply Grown.alloc)⟩

set_option maxHeartbeats 400000 in
theorem cov0 (f : Int) (t v : ByteArray) (w : World) (h1 : (f == 1) = false) (h2 : (f == 2) = false) (h3 : (f == 3) = false) (h4 : (f == 4) = false) (h5 : (f == 5) = false) :
    Calls Try.prog 28 #[.agg #[.int .u8 f, .string t], .string v] w fun e w' => e = .returned (.bool (v.toList == t.toList)) ∧ Grown w w' := by
  go_enter Try.func28, Try.ntmps28
  go_wp2_with fail
  go_ret
  exact ⟨rfl, by repeat (first | exact Grown.refl _ | apply Grown.drew | apply Grown.alloc)⟩
end Go.Proofs.Qxb6603091a
