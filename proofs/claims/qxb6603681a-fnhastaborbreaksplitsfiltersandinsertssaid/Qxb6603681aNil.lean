/-
  THE WALK OF THE LAW AT nil (seat b6603681a), AND THE LAW WHOLE.
-/
import Derived.Test.Qxb6603681aLaw
import Derived.Laws.AppendOwnNone
import Derived.OpenShut
import Derived.ProofKit
namespace Go.Proofs.Qxb6603681a
open Go.ChangeShapes Go.WideShapes Go.ChangeAt Go.RowKit
set_option linter.unusedVariables false

theorem has_nil (w : World) : Has w (.slice none 0 0) [] := ⟨fun x h => absurd h (by simp), .inl ⟨rfl, rfl⟩⟩

set_option maxHeartbeats 4000000 in
set_option maxRecDepth 100000 in
theorem law_nil (k : Int) (w : World) :
    Calls Try.prog 4 #[.slice none 0 0, .int .i64 0, .int .u8 k] w fun e w' => e = .returned (.bool true) ∧ Below w.heap.size w w' := by
  obtain ⟨i0, hi, hz0, hz1, hz2⟩ := info_parts info5
  have HCL := hid (clone_nil w)
  go_enter Try.func4, Try.ntmps4
  go_wp2_with (go_at_call 10; go_in)
  refine HCL.out.mono ?_
  rintro e w1 ⟨rfl, hw1⟩
  have hw1' := hw1.symm
  subst hw1'
  clear HCL
  go_upto_if 32 with fail
  go_cut [7] (fun v wx => ∃ cc : Int, v = .int .u8 cc ∧ isT cc = true ∧ 0 ≤ cc ∧ cc < 256 ∧ wx = w)
  case first =>
    rcases Bool.eq_false_or_eq_true (k == 0) with h0 | h0
    · go_wp2_with fail
      go_meet
      case rel => exact ⟨9, rfl, rfl, by decide, by decide, rfl⟩
    · rcases Bool.eq_false_or_eq_true (k == 1) with h1 | h1
      · go_wp2_with fail
        go_meet
        case rel => exact ⟨10, rfl, rfl, by decide, by decide, rfl⟩
      · go_wp2_with fail
        go_meet
        case rel => exact ⟨13, rfl, rfl, by decide, by decide, rfl⟩
  case rest =>
    obtain ⟨cc, rfl, hT, hc0, hc1, hwc⟩ := hcut
    have hwc' := hwc.symm
    subst hwc'
    have HT := hid hT
    clear hT
    have HNL := hid (has_any (has_nil w))
    go_wp2_with (first
      | (go_at_call 9; refine HNL.out.mono ?_; rintro e w' ⟨rfl, hw'⟩; have hw'' := hw'.symm; subst hw'')
      | (at_make; refine wpList_make_own _ rfl _ _ 22 rfl w.heap.size 5 i0 (.int .u8 0) 1 Try.underlying22 hi hz0 hz1 _ _ _ 0 rfl rfl rfl ?b2 ?b3 (Nat.le_refl _) ?_))
    case b2 => omega
    case b3 => unfold maxLen; omega
    intro w2 hown2 hgrow2
    have HO2 := hid hown2
    have HB2 := hid ((Below.refl w.heap.size w).grown hgrow2 (Nat.le_refl _) (fun k h => by cases h))
    clear hown2 hgrow2 HNL
    go_wp2_with fail
    go_loopw [10, 11] (fun v i wr => v = .slice (some ⟨w.heap.size, 0, none⟩) 0 0 ∧ i = .int .i64 0 ∧ wr = w2) (fun _ _ _ => 0)
    case atStart => exact ⟨rfl, rfl, rfl⟩
    case round =>
      obtain ⟨rfl, rfl, hwr⟩ := hrel
      have hwr' := hwr.symm
      subst hwr'
      go_wp2_with (at_make; refine wpList_make_own _ rfl _ _ 22 rfl w2.heap.size 5 i0 (.int .u8 0) 1 Try.underlying22 hi hz0 hz1 _ _ _ 1 rfl rfl rfl ?b2 ?b3 (Nat.le_refl _) ?_)
      case b3 => unfold maxLen; omega
      intro w3 hown3 hgrow3
      have HO3 := hid hown3
      have HB3 := hid ((Below.refl w2.heap.size w2).grown hgrow3 (Nat.le_refl _) (fun k h => by cases h))
      have hz3 := hgrow3.size
      clear hown3 hgrow3
      go_wp2_with (first
        | (at_builtin; refine wpList_append_own_none rfl (.tmp 73) (.tmp 76) 22 rfl w2.heap.size 5 i0 1 Try.underlying22 hi _ _ _ rfl HO3.out rfl ?_)
        | (at_builtin; refine wpList_append_own _ rfl (.tmp 78) (.tmp 80) 22 rfl w2.heap.size 5 i0 (.int .u8 0) 1 1 Try.underlying22 hi hz0 hz1 hz2 rfl (by decide) _ _ _ rfl (HO3.out.alloc _) ⟨w3.heap.size, 0, none⟩ 1 1 [.int .u8 cc] rfl rfl ?c1 ?c2 ?c3 ?c4 ?c5 ?_))
      case c1 => exact one_new _ _
      case c2 => intro u hu; simp at hu; subst hu; rfl
      case c3 => unfold maxLen; omega
      case c4 => omega
      case c5 => simp; omega
      intro v4 w4 hown4 hgrow4 _
      have hO4 : w4.ownsRow w2.heap.size 5 1 v4 _ (([] ++ [cc] ++ []).map (Value.int .u8)) := own_eq hown4 (by simp)
      have hB4 : Below w2.heap.size w2 w4 := below_own (HB3.out.alloc hz3 _) (HO3.out.alloc _) hgrow4 (by simp; omega) (Nat.le_refl _)
      have hH1 := has_any (own_has (ys := []) (own_below HO2.out hB4) (fun x hx => absurd hx (by simp)))
      have hH2 := has_any (own_has hO4 (fun x hx => by simp at hx; rw [hx]; exact ⟨hc0, hc1⟩))
      rw [hasT_insert _ _ _ HT.out] at hH2
      have HO4 := hid hown4
      have HH1 := hid hH1
      have HH2 := hid hH2
      have HEND := hid (HB2.out.trans (hB4.mono HB2.out.size))
      clear hown4 hgrow4 hO4 hB4 hH1 hH2 HO3 HB3
      go_wp2_with (at_builtin; refine wpList_append_own_none rfl (.tmp 82) (.tmp 85) 22 rfl w2.heap.size 5 i0 1 Try.underlying22 hi _ _ _ rfl HO4.out rfl ?_)
      go_wp2_with fail
      refine HH1.out.mono ?_
      rintro e w' ⟨rfl, hw'⟩
      have hw'' := hw'.symm
      subst hw''
      go_wp2_with fail
      refine HH2.out.mono ?_
      rintro e w' ⟨rfl, hw'⟩
      have hw'' := hw'.symm
      subst hw''
      go_wp2_with fail
      go_ret
      exact ⟨ret_bool (by simp), HEND.out⟩

namespace fnHasTabOrBreakSplitsFiltersAndInserts
/-- WHAT THE WALK IS TOLD OF A SLICE OF INTEGERS THAT CAME IN: it is nil; or it leads to a row of 'cap' cells, the numbers 'zs' (the first 'len' are its elements, the rest its spare room), each fitting its kind. -/
def IsRow (k : IntKind) (w : World) (a : Option Addr) (len cap : Nat) (zs : List Int) : Prop :=
  (a = none ∧ len = 0 ∧ cap = 0 ∧ zs = []) ∨
  ∃ x, a = some x ∧ len ≤ cap ∧ cap ≤ maxLen ∧ zs.length = cap ∧ (∀ i, i < zs.length → w.cell? (x.add i) = some (.int k (zs.getD i 0))) ∧ ∀ n ∈ zs, (Lit.int k n).wf = true

theorem byte_of_wf {n : Int} (h : (Lit.int .u8 n).wf = true) : 0 ≤ n ∧ n < 256 := by
  have := bounds_u8 h
  omega

set_option maxHeartbeats 1000000 in
/-- THE LAW's WALK, whatever comes in. -/
theorem walk (a0 : Option Addr) (len0 cap0 : Nat) (z0 : List Int) (a1 : Int) (a2 : Int) (w : World) (w0 : IsRow .u8 w a0 len0 cap0 z0) (w1 : (Lit.int .i64 a1).wf = true) (w2 : (Lit.int .u8 a2).wf = true) :
    Calls Try.prog 4 #[.slice a0 len0 cap0, .int .i64 a1, .int .u8 a2] w fun e w' => e = .returned (.bool true) ∧ Below w.heap.size w w' := by
  by_cases hbig : 1048576 < len0
  · go_enter Try.func4, Try.ntmps4
    go_wp2_with (go_at_call 10; go_in)
    go_ret
    exact ⟨rfl, Below.refl _ _⟩
  by_cases hneg : a1 < 0
  · go_enter Try.func4, Try.ntmps4
    go_wp2_with (go_at_call 10; go_in)
    go_ret
    exact ⟨rfl, Below.refl _ _⟩
  by_cases hout : (len0 : Int) < a1
  · go_enter Try.func4, Try.ntmps4
    go_wp2_with (go_at_call 10; go_in)
    go_ret
    exact ⟨rfl, Below.refl _ _⟩
  obtain ⟨p, rfl⟩ : ∃ p : Nat, a1 = p := ⟨a1.toNat, by omega⟩
  rcases w0 with ⟨rfl, rfl, rfl, _⟩ | ⟨x, rfl, hl, hm, hz, hc, hwz⟩
  · obtain rfl : p = 0 := by omega
    exact law_nil a2 w
  · have hx : (z0.take len0).length = len0 := by rw [List.length_take]; omega
    have hbt : ∀ y ∈ z0.take len0, 0 ≤ y ∧ y < 256 := fun y hy => byte_of_wf (hwz y (List.mem_of_mem_take hy))
    refine law_some x len0 cap0 p (z0.take len0) a2 w (by omega) (by omega) hx hbt ?_
    by_cases h0 : len0 = 0
    · subst h0
      exact clone_empty x cap0 _ w
    · obtain ⟨b, o, spot⟩ := x
      have hspot : spot = none := by simpa [Addr.add] using World.cell?_spot (hc 0 (by omega))
      subst hspot
      refine clone_some b o len0 cap0 (z0.take len0) w (by omega) (fun j hj => ?_)
      rw [← add_plain, hc j (by omega)]
      simp [nth, List.getD, hj]
end fnHasTabOrBreakSplitsFiltersAndInserts
end Go.Proofs.Qxb6603681a
