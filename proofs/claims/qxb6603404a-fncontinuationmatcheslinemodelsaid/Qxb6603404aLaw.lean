/-
  THE WALK OF THE LAW FnContinuationMatchesLineModel (seat b6603404a).
-/
import Derived.Test.Qxb6603404aModel
namespace Go.Proofs.Qxb6603404a
open Go.RowKit Plain
set_option linter.unusedVariables false

set_option maxHeartbeats 1000000 in
theorem law_walk (a0 : ByteArray) (a1 : ByteArray) (a2 : Int) (a3 : Int) (a4 : Int) (a5 : Int) (a6 : Bool) (w0 : a0.size ≤ maxLen) (w1 : a1.size ≤ maxLen) (w : World) :
    Calls Try.prog 7 #[.string a0, .string a1, .int .i64 a2, .int .i64 a3, .int .i64 a4, .int .i64 a5, .bool a6] w fun e w' => e = .returned (.bool true) ∧ Grown w w' := by
  unfold maxLen at w0 w1
  by_cases b1 : 1048576 < a0.size
  · go_enter Try.func7, Try.ntmps7
    go_wp2_with (go_at_call 16; go_in)
    go_ret
    exact ⟨rfl, Grown.refl _⟩
  by_cases b2 : 1048576 < a1.size
  · go_enter Try.func7, Try.ntmps7
    go_wp2_with (go_at_call 16; go_in)
    go_ret
    exact ⟨rfl, Grown.refl _⟩
  by_cases b3 : 1048576 < a0.size + a1.size
  · go_enter Try.func7, Try.ntmps7
    go_wp2_with (go_at_call 16; go_in)
    go_ret
    exact ⟨rfl, Grown.refl _⟩
  by_cases b4 : a2 < 0
  · go_enter Try.func7, Try.ntmps7
    go_wp2_with (go_at_call 16; go_in)
    go_ret
    exact ⟨rfl, Grown.refl _⟩
  have hs : a1.size ≤ 1048576 := by omega
  have hz := zz_any a0 a1 a2 a3 a4 a5 a6 w hs (by omega)
  have hm := fun w => model_all a1 a2 a3 a4 a5 a6 w hs (by omega)
  generalize found a1 a5 a6 a2 = F at hz hm
  rcases F with _ | ⟨c, st, b⟩
  · have HZ : Hid (Calls Try.prog 17 #[.string a0, .string a1, .int .i64 a2, .int .i64 a3, .int .i64 a4, .int .i64 a5, .bool a6] w fun e w' => e = .returned (.tuple #[.int .i64 a2, .int .i64 a3, .int .i64 a4, .int .i64 0, .bool false]) ∧ Grown w w') := hz
    have HM : Hid (∀ w, Calls Try.prog 18 #[.string a1, .int .i64 a2, .int .i64 a3, .int .i64 a4, .int .i64 a5, .bool a6] w fun e w' => e = .returned (.tuple #[.int .i64 a2, .int .i64 a3, .int .i64 a4, .int .i64 0, .bool false]) ∧ w' = w) := hm
    clear hz hm
    go_enter Try.func7, Try.ntmps7
    go_wp2_with (go_at_call 16; go_in)
    refine HZ.out.mono ?_
    rintro e wa ⟨rfl, hg⟩
    have HG : Hid (Grown w wa) := hg
    clear hg
    go_wp2_with fail
    refine (HM.out _).mono ?_
    rintro e wb ⟨rfl, hwb⟩
    have hwb' := hwb.symm
    subst hwb'
    go_wp2_with fail
    go_ret
    exact ⟨ret_bool (by simp), HG.out⟩
  · have HZ : Hid (Calls Try.prog 17 #[.string a0, .string a1, .int .i64 a2, .int .i64 a3, .int .i64 a4, .int .i64 a5, .bool a6] w fun e w' => e = .returned (.tuple #[.int .i64 (c : Int), .int .i64 (wrap64 (a3 + ((b : Int) + 1))), .int .i64 (st : Int), .int .i64 (b : Int), .bool true]) ∧ Grown w w') := hz
    have HM : Hid (∀ w, Calls Try.prog 18 #[.string a1, .int .i64 a2, .int .i64 a3, .int .i64 a4, .int .i64 a5, .bool a6] w fun e w' => e = .returned (.tuple #[.int .i64 (c : Int), .int .i64 (wrap64 (a3 + ((b : Int) + 1))), .int .i64 (st : Int), .int .i64 (b : Int), .bool true]) ∧ w' = w) := hm
    clear hz hm
    obtain ⟨l, hl⟩ : ∃ l, wrap64 (a3 + ((b : Int) + 1)) = l := ⟨_, rfl⟩
    rw [hl] at HZ HM
    clear hl
    go_enter Try.func7, Try.ntmps7
    go_wp2_with (go_at_call 16; go_in)
    refine HZ.out.mono ?_
    rintro e wa ⟨rfl, hg⟩
    have HG : Hid (Grown w wa) := hg
    clear hg
    go_wp2_with fail
    refine (HM.out _).mono ?_
    rintro e wb ⟨rfl, hwb⟩
    have hwb' := hwb.symm
    subst hwb'
    go_wp2_with fail
    go_ret
    exact ⟨ret_bool (by simp), HG.out⟩
end Go.Proofs.Qxb6603404a
