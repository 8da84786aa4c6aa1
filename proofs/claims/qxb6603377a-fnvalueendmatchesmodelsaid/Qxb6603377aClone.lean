/-
  THE WALK OF b1Clone (seat b6603377a): a new row with the same numbers; nothing that was there has turned.
-/
import Derived.Test.Qxb6603377aScan
import Derived.Deep.OwnRows
import Derived.WalkSpells
namespace Go.Proofs.Qxb6603377a
open Go.RowKit Plain

theorem info5 : (Try.prog.info? 5).map (fun i => (i.zero, i.size, i.bytes)) = some (some (.int .u8 0), 1, 1) := by kernel_rfl

/-- The new row when k numbers are copied. -/
def part (xs : List Int) (k : Nat) : Nat → Value := fun j => if j < k then .int .u8 (nth xs j) else .int .u8 0

theorem part_step {w wr : World} {n k : Nat} {xs : List Int} (h : wr.rowIs w.heap.size 5 n (part xs k)) : (wr.setCell ⟨w.heap.size, k, none⟩ (.int .u8 (nth xs k))).rowIs w.heap.size 5 n (part xs (k + 1)) :=
  (h.set k _).congr fun j _ => by
    simp only [part]
    by_cases e : j = k
    · subst e; simp
    · rw [if_neg e]
      by_cases hlt : j < k
      · rw [if_pos hlt, if_pos (by omega)]
      · rw [if_neg hlt, if_neg (by omega)]

set_option maxHeartbeats 400000 in
theorem clone_any (b o n c : Nat) (xs : List Int) (w : World) (hn : n ≤ 1048576)
    (hc : ∀ j, j < n → w.cell? ⟨b, o + j, none⟩ = some (.int .u8 (nth xs j))) :
    Calls Try.prog 11 #[.slice (some ⟨b, o, none⟩) n c] w fun e w' => e = .returned (.slice (some ⟨w.heap.size, 0, none⟩) n n) ∧ Below w.heap.size w w' ∧ ∀ j, j < n → w'.cell? ⟨w.heap.size, j, none⟩ = some (.int .u8 (nth xs j)) := by
  have hmk := run_make_row' (P := Try.prog) 22 5 (.int .u8 0) 1 Try.underlying22 info5 rfl .i64 .i64 n (by omega) (by omega)
  have q22 : ∀ (w : World) (a : Option Addr) (n c n' c' : Nat), (binOp .eql 22 (.slice a n c) (.slice none n' c')).run Try.prog w = .ok (.bool a.isNone) w := fun w a n c n' c' => Lib.run_eql_slice_nil w _ _ a n c n' c' Try.underlying22
  go_enter Try.func11, Try.ntmps11
  go_wp2
  clear hmk q22
  go_loopw [4] (fun i wr => ∃ k : Nat, k ≤ n ∧ i = .int .i64 k ∧ Below w.heap.size w wr ∧ wr.rowIs w.heap.size 5 n (part xs k)) (fun i _ => n - (intOf i).toNat)
  case atStart => exact ⟨0, Nat.zero_le _, rfl, (Below.refl _ _).alloc (Nat.le_refl _) _, (World.rowIs_made w _ n 5).congr (fun j _ => by simp [part])⟩
  case round =>
    obtain ⟨k, hk, rfl, hb, hrow⟩ := hrel
    by_cases hlt : k < n
    · have hbw : b < w.heap.size := World.block_lt_of_cell? _ _ (hc k hlt)
      have g : wr.cell? ⟨b, o + k, none⟩ = some (.int .u8 (nth xs k)) := by rw [hb.cell (p := ⟨b, o + k, none⟩) hbw]; exact hc k hlt
      have g1 : wr.cell? ⟨w.heap.size, k, none⟩ = some (.int .u8 0) := by have := hrow.cell hlt; simpa [part] using this
      have g2 : wr.frozen? ⟨w.heap.size, k, none⟩ = false := hrow.frozen k
      go_wp2
      go_roundw
      case rel => exact ⟨k + 1, by omega, by go_num, hb.setCell (Nat.le_refl _) _, part_step hrow⟩
      case measure => simp [intOf]; omega
    · go_wp2
      go_ret
      have e : k = n := by omega
      subst e
      refine ⟨rfl, hb, fun j hj => ?_⟩
      rw [hrow.cell hj]
      simp [part, hj]
end Go.Proofs.Qxb6603377a
