/-
  bytes.IndexByte (seat b6603377a), and what its answer says of the numbers.
-/
import Derived.Test.Qxb6603377aScan
import Derived.Lib.BytesEntry
namespace Go.Proofs.Qxb6603377a
open Go.RowKit Plain

set_option maxHeartbeats 1000000 in
set_option maxRecDepth 100000 in
theorem idx_any (b o n c : Nat) (xs : List Int) (cv : Int) (w : World) (hx : xs.length = n)
    (hc : ∀ i, i < n → w.cell? ⟨b, o + i, none⟩ = some (.int .u8 (xs.getD i 0))) :
    Calls Try.prog 28 #[.slice (some ⟨b, o, none⟩) n c, .int .u8 cv] w fun e w' => e = .returned (.int .i64 (Lib.indexByte (Lib.bytesOf xs) cv.toNat.toUInt8)) ∧ w' = w := by
  go_enter Try.func28, Try.ntmps28
  go_wp2
  rw [run_callFunc_extern Try.func30 (by kernel_rfl) (by kernel_rfl) (by kernel_rfl) (e := Extern.BytealgIndexByte.indexByte) (by kernel_rfl), Lib.run_indexByteSlice w b o n c xs hx hc cv]
  simp only [Result.andThen]
  rw [Oper.upon_value]
  go_wp2
  go_ret
  exact ⟨rfl, rfl⟩

/-- The answer's meaning. -/
theorem indexByte_says (c : Int) (h0 : 0 ≤ c) (h1 : c < 256) : ∀ (xs : List Int), (∀ x ∈ xs, 0 ≤ x ∧ x < 256) →
    (Lib.indexByte (Lib.bytesOf xs) c.toNat.toUInt8 = -1 ∧ ∀ j, j < xs.length → xs.getD j 0 ≠ c) ∨
    ∃ q : Nat, Lib.indexByte (Lib.bytesOf xs) c.toNat.toUInt8 = q ∧ q < xs.length ∧ xs.getD q 0 = c ∧ ∀ j, j < q → xs.getD j 0 ≠ c := by
  intro xs
  induction xs with
  | nil => intro _; exact .inl ⟨rfl, fun j hj => absurd hj (Nat.not_lt_zero _)⟩
  | cons x l ih =>
    intro h
    have hx := h x (List.mem_cons_self ..)
    have e : (x.toNat.toUInt8 == c.toNat.toUInt8) = decide (x = c) := by
      rw [Bool.eq_iff_iff, beq_iff_eq, decide_eq_true_iff]
      constructor
      · intro h
        have := congrArg UInt8.toNat h
        simp at this
        omega
      · rintro rfl; rfl
    have e2 : Lib.bytesOf (x :: l) = x.toNat.toUInt8 :: Lib.bytesOf l := rfl
    rw [e2]
    unfold Lib.indexByte
    rw [e]
    by_cases hxc : x = c
    · subst hxc
      right
      exact ⟨0, by simp, by simp, by simp, fun j hj => absurd hj (Nat.not_lt_zero _)⟩
    · rcases ih (fun y hy => h y (List.mem_cons_of_mem _ hy)) with ⟨h2, h3⟩ | ⟨q, h2, h3, h4, h5⟩
      · left
        rw [h2]
        refine ⟨by simp [hxc], fun j hj => ?_⟩
        cases j with
        | zero => simpa using hxc
        | succ j => simpa using h3 j (by simpa using hj)
      · right
        refine ⟨q + 1, ?_, by simpa using h3, by simpa using h4, fun j hj => ?_⟩
        · rw [h2]
          have : ((q : Int) == -1) = false := by rw [beq_eq_false_iff_ne]; omega
          simp [hxc, this]
        · cases j with
          | zero => simpa using hxc
          | succ j => simpa using h5 j (by omega)
end Go.Proofs.Qxb6603377a
