/-
  THE WALKS OF SEAT b6603377a that only read: b1ScanString.
-/
import Derived.Test.Qxb6603377aRows
import Derived.Test.Qxb6603377aPlain
import Derived.WalkKit
namespace Go.Proofs.Qxb6603377a
open Go.RowKit Plain

theorem ret_int {k : IntKind} {a b : Int} (h : a = b) : Ending.returned (.int k a) = .returned (.int k b) := by rw [h]
/-- The j-th number: a name that the walk does not lay open. -/
def nth (xs : List Int) (j : Nat) : Int := xs.getD j 0

set_option maxHeartbeats 400000 in
/-- b1ScanString at a slice of the numbers xs: the forward scan. -/
theorem scan_any (b o n c : Nat) (xs : List Int) (i : Nat) (w : World) (hx : xs.length = n) (hn : n ≤ 1048576) (hi : i < n)
    (hc : ∀ j, j < n → w.cell? ⟨b, o + j, none⟩ = some (.int .u8 (nth xs j))) :
    Calls Try.prog 13 #[.slice (some ⟨b, o, none⟩) n c, .int .i64 i] w fun e w' => e = .returned (.int .i64 (strEnd xs false (i + 1))) ∧ w' = w := by
  have HX : Hid (xs.length = n) := hx
  clear hx
  go_enter Try.func13, Try.ntmps13
  go_wp2
  go_loop [5] (fun k => ∃ m : Nat, m ≤ n + 1 ∧ k = .int .i64 m ∧ strEnd xs false (i + 1) = strEnd xs false m) (fun k => n + 1 - (intOf k).toNat)
  case atStart => exact ⟨i + 1, by omega, by go_num, rfl⟩
  case round =>
    obtain ⟨m, hm, rfl, hs⟩ := hrel
    have HS : Hid (strEnd xs false (i + 1) = strEnd xs false m) := hs
    clear hs
    by_cases hlt : m < n
    · have g := hc m hlt
      have hlx : m < xs.length := by rw [HX.out]; exact hlt
      go_wp2
      · have h1 : (nth xs m == 92) = true := by assumption
        go_round
        case rel => exact ⟨m + 2, by omega, by go_num, by rw [HS.out, strEnd_back xs m hlx (beq_iff_eq.1 h1), strEnd_esc']⟩
        case measure => simp [intOf]; omega
      · have h2 : (nth xs m == 34) = true := by assumption
        go_ret
        exact ⟨ret_int (by rw [HS.out, strEnd_quote xs m hlx (beq_iff_eq.1 h2)]), rfl⟩
      · have h1 : (nth xs m == 92) = false := by assumption
        have h2 : (nth xs m == 34) = false := by assumption
        go_round
        case rel => exact ⟨m + 1, by omega, by go_num, by rw [HS.out, strEnd_else xs m hlx (beq_eq_false_iff_ne.1 h1) (beq_eq_false_iff_ne.1 h2)]⟩
        case measure => simp [intOf]; omega
    · go_wp2
      go_ret
      exact ⟨ret_int (by rw [HS.out, strEnd_out _ _ _ (by rw [HX.out]; omega)]), rfl⟩
end Go.Proofs.Qxb6603377a
