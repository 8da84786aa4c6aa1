/-
  THE WALK OF THE LAW FnValueEndMatchesModel (seat b6603377a).
-/
import Derived.Test.Qxb6603377aClone
import Derived.Test.Qxb6603377aModel
import Derived.ProofKit
import Derived.OpenShut
import Derived.Below
namespace Go.Proofs.Qxb6603377a.fnValueEndMatchesModel
open Go.ChangeShapes Go.WideShapes Go.ChangeAt Go.RowKit Plain
set_option linter.unusedVariables false

/-- WHAT THE WALK IS TOLD OF A SLICE OF INTEGERS THAT CAME IN: it is nil; or it leads to a row of 'cap' cells, the numbers 'zs' (the first 'len' are its elements, the rest its spare room), each fitting its kind. -/
def IsRow (k : IntKind) (w : World) (a : Option Addr) (len cap : Nat) (zs : List Int) : Prop :=
  (a = none ∧ len = 0 ∧ cap = 0 ∧ zs = []) ∨
  ∃ x, a = some x ∧ len ≤ cap ∧ cap ≤ maxLen ∧ zs.length = cap ∧ (∀ i, i < zs.length → w.cell? (x.add i) = some (.int k (zs.getD i 0))) ∧ ∀ n ∈ zs, (Lit.int k n).wf = true

theorem byte_of_wf {n : Int} (h : (Lit.int .u8 n).wf = true) : 0 ≤ n ∧ n < 256 := by
  have := bounds_u8 h
  omega

/-- An element is there: the slice has an address, and its cells are told. -/
theorem row_open {w : World} {a : Option Addr} {len cap : Nat} {zs : List Int} (h : IsRow .u8 w a len cap zs) {i : Nat} (hi : i < len) (hs : len ≤ 1048576) :
    ∃ b o, a = some ⟨b, o, none⟩ ∧ Holds w b o len (zs.take len) := by
  rcases h with ⟨_, h0, _⟩ | ⟨x, rfl, hl, hm, hz, hc, hwz⟩
  · omega
  obtain ⟨b, o, spot⟩ := x
  have hspot : spot = none := by simpa [Addr.add] using World.cell?_spot (hc 0 (by omega))
  subst hspot
  refine ⟨b, o, rfl, by rw [List.length_take]; omega, hs, fun x hx => byte_of_wf (hwz x (List.mem_of_mem_take hx)), fun j hj => ?_⟩
  rw [← add_plain, hc j (by omega)]
  simp [nth, List.getD, hj]

/-- valueEnd and the model answer the same. -/
theorem both {w : World} {b o n : Nat} {xs : List Int} (h : Holds w b o n xs) {i : Nat} (hi : i < n) : ∃ v : Int,
    (Calls Try.prog 25 #[.slice (some ⟨b, o, none⟩) n n, .int .i64 i] w fun e w' => e = .returned (.int .i64 v) ∧ w' = w) ∧
    (Calls Try.prog 17 #[.slice (some ⟨b, o, none⟩) n n, .int .i64 i] w fun e w' => e = .returned (.int .i64 v) ∧ w' = w) := by
  have hlx : i < xs.length := by rw [h.len]; exact hi
  by_cases h1 : nth xs i = 34
  · refine ⟨_, val_any_quote b o n xs i w h hi h1, ?_⟩
    rw [← val_quote xs i hlx h1]
    exact model_any b o n xs i w h hi (.inl h1)
  by_cases h2 : opens (nth xs i) = true
  · refine ⟨_, val_any_open b o n xs i w h hi h2, ?_⟩
    rw [← val_open xs i hlx h2]
    exact model_any b o n xs i w h hi (.inr (opens_or.1 h2))
  · rw [opens_or] at h2
    have g1 : (nth xs i == 34) = false := beq_eq_false_iff_ne.2 h1
    have g2 : (nth xs i == 91) = false := beq_eq_false_iff_ne.2 (fun e => h2 (.inl e))
    have g3 : (nth xs i == 123) = false := beq_eq_false_iff_ne.2 (fun e => h2 (.inr e))
    exact ⟨_, val_any_scalar b o n xs i w h hi g1 g2 g3, model_any_scalar b o n xs i w h hi g1 g2 g3⟩

/-! ### STEP 1: THE WALK: the Go text returns true, AND WRITES NOTHING THAT WAS THERE: 'Below w.heap.size w w'' (Derived/Below.lean: '.refl', '.alloc', '.drew', '.setCell' at a new block, '.trans'). Open each 'IsRow' by 'rcases' AHEAD of 'go_enter'; part every test ahead of the walk. -/
theorem walk (a0 : Option Addr) (len0 cap0 : Nat) (z0 : List Int) (a1 : Int) (w : World) (w0 : IsRow .u8 w a0 len0 cap0 z0) (w1 : (Lit.int .i64 a1).wf = true) :
    Calls Try.prog 5 #[.slice a0 len0 cap0, .int .i64 a1] w fun e w' => e = .returned (.bool true) ∧ Below w.heap.size w w' := by
  by_cases hbig : 1048576 < len0
  · go_enter Try.func5, Try.ntmps5
    go_wp2_with go_in
    go_ret
    exact ⟨rfl, Below.refl _ _⟩
  have hsmall : len0 ≤ 1048576 := by omega
  by_cases hneg : a1 < 0
  · go_enter Try.func5, Try.ntmps5
    go_wp2_with go_in
    go_ret
    exact ⟨rfl, Below.refl _ _⟩
  by_cases hout : (len0 : Int) ≤ a1
  · go_enter Try.func5, Try.ntmps5
    go_wp2_with go_in
    go_ret
    exact ⟨rfl, Below.refl _ _⟩
  obtain ⟨i, rfl⟩ : ∃ i : Nat, a1 = i := ⟨a1.toNat, by omega⟩
  have hi : i < len0 := by omega
  obtain ⟨b, o, rfl, H⟩ := row_open w0 hi hsmall
  have hboth := fun w1 (H1 : Holds w1 w.heap.size 0 len0 (z0.take len0)) => both H1 hi
  have HBOTH := hid hboth
  clear hboth
  go_enter Try.func5, Try.ntmps5
  go_wp2_with (go_at_call 15; go_in)
  refine (clone_any b o len0 cap0 (z0.take len0) w hsmall H.cell).mono ?_
  rintro e w1 ⟨rfl, hb, hcells⟩
  have H1 : Holds w1 w.heap.size 0 len0 (z0.take len0) := ⟨H.len, H.small, H.byte, fun j hj => by rw [Nat.zero_add]; exact hcells j hj⟩
  have HB := hid hb
  clear hcells hb
  obtain ⟨v, h25, h17⟩ := HBOTH.out w1 H1
  have HA := hid h25
  have HM := hid h17
  clear h25 h17 HBOTH
  go_wp2_with (go_at_call 16; go_in)
  refine HA.out.mono ?_
  rintro e w2 ⟨rfl, hw2⟩
  have hw3 := hw2.symm
  subst hw3
  go_wp2_with fail
  refine HM.out.mono ?_
  rintro e w3 ⟨rfl, hw3⟩
  have hw4 := hw3.symm
  subst hw4
  go_wp2_with fail
  go_ret
  exact ⟨by simp, HB.out⟩

end Go.Proofs.Qxb6603377a.fnValueEndMatchesModel
