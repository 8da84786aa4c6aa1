/-
  THE WALKS OF markerAt AND zzStartsMarker (seat b6603404a).
-/
import Derived.Test.Qxb6603404aIndent
import Derived.Test.Qxb6603404aShelf
import Derived.Lib.IndexBytes
namespace Go.Proofs.Qxb6603404a
open Go.RowKit Plain
set_option linter.unusedVariables false

/-- Three bytes m stand at st. -/
def three (s : ByteArray) (st : Nat) (m : Int) : Bool := decide (st + 3 ≤ s.size) && (bt s st == m && (bt s (st + 1) == m && bt s (st + 2) == m))
/-- .. and the text ends behind them, or a blank or a break stands there. -/
def mk (s : ByteArray) (st : Nat) (m : Int) : Bool := three s st m && soe s (st + 3)

theorem extract_list (s : ByteArray) (st : Nat) : (s.extract st s.size).data.toList = s.data.toList.drop st := by
  exact Lib.extract_to_end s st

theorem bt_list (s : ByteArray) (k : Nat) (x : UInt8) (h : s.data.toList[k]? = some x) : bt s k = x.toNat := by
  unfold bt
  rw [List.getD_eq_getElem?_getD, h]
  rfl

theorem u8_beq (x m : UInt8) : (m == x) = (((x.toNat : Nat) : Int) == ((m.toNat : Nat) : Int)) := by
  rw [Bool.eq_iff_iff, beq_iff_eq, beq_iff_eq]
  constructor
  · rintro rfl; rfl
  · intro h
    have : x.toNat = m.toNat := by omega
    exact (UInt8.toNat_inj.1 this).symm

theorem prefix_three (s : ByteArray) (st : Nat) (m : UInt8) : Lib.hasPrefix (s.extract st s.size).data.toList [m, m, m] = three s st m.toNat := by
  rw [extract_list]
  have hl : s.size = s.data.toList.length := rfl
  by_cases h : st + 3 ≤ s.size
  · have h0 : st < s.data.toList.length := by omega
    have h1 : st + 1 < s.data.toList.length := by omega
    have h2 : st + 2 < s.data.toList.length := by omega
    rw [List.drop_eq_getElem_cons h0, List.drop_eq_getElem_cons h1, List.drop_eq_getElem_cons h2]
    have b0 := bt_list s st _ (List.getElem?_eq_getElem h0)
    have b1 := bt_list s (st + 1) _ (List.getElem?_eq_getElem h1)
    have b2 := bt_list s (st + 2) _ (List.getElem?_eq_getElem h2)
    simp only [Lib.hasPrefix, List.isPrefixOf, three, b0, b1, b2, u8_beq, h, decide_true, Bool.true_and, Bool.and_true]
  · have e : three s st m.toNat = false := by simp [three, h]
    rw [e, Lib.hasPrefix]
    rw [Bool.eq_false_iff]
    intro hp
    have := (List.isPrefixOf_iff_prefix.1 hp).length_le
    rw [List.length_drop] at this
    simp at this
    omega

set_option maxHeartbeats 800000 in
/-- markerAt. -/
theorem mark_any (s : ByteArray) (st P : Nat) (m : UInt8) (w : World) (hs : s.size ≤ 1048576) (hst : st ≤ s.size) (hc : w.cell? ⟨P, 1, none⟩ = some (.string s)) :
    Calls Try.prog 33 #[.pointer (some ⟨P, 0, none⟩), .int .i64 st, .string ⟨#[m, m, m]⟩] w fun e w' => e = .returned (.bool (mk s st m.toNat)) ∧ w' = w := by
  have hp := Try.strings_HasPrefix (s.extract st s.size) ⟨#[m, m, m]⟩ w
  have e : Lib.hasPrefix (s.extract st s.size).data.toList (⟨#[m, m, m]⟩ : ByteArray).data.toList = three s st m.toNat := prefix_three s st m
  rw [e] at hp
  clear e
  have HP := hid hp
  have hS := soe_any s (st + 3) P w hs (by omega) hc
  rw [show ((st + 3 : Nat) : Int) = (st : Int) + 3 by omega] at hS
  have HS := hid hS
  clear hp hS
  by_cases ht : three s st m.toNat = true
  · have e : mk s st m.toNat = soe s (st + 3) := by simp [mk, ht]
    rw [e]
    clear e
    go_enter Try.func33, Try.ntmps33
    go_wp2_with (first | (go_at_call 36; refine HP.out.mono ?_; rintro e w' ⟨rfl, rfl⟩) | (go_at_call 35; refine HS.out.mono ?_; rintro e w' ⟨rfl, rfl⟩))
    go_ret
    exact ⟨rfl, rfl⟩
  · have ht' : three s st m.toNat = false := by simpa using ht
    have e : mk s st m.toNat = false := by simp [mk, ht']
    rw [e]
    clear e ht
    go_enter Try.func33, Try.ntmps33
    go_wp2_with (go_at_call 36; refine HP.out.mono ?_; rintro e w' ⟨rfl, rfl⟩)
    go_ret
    exact ⟨rfl, rfl⟩

set_option maxHeartbeats 800000 in
/-- zzStartsMarker, e the line's end. -/
theorem starts_any (s : ByteArray) (st e : Nat) (m : Int) (w : World) (hs : s.size ≤ 1048576) (hst : st ≤ s.size) (he : e = skip nbr (bt s) s.size st) (hm : m ≠ 10) :
    Calls Try.prog 29 #[.string s, .int .i64 st, .int .i64 e, .int .u8 m] w fun r w' => r = .returned (.bool (mk s st m)) ∧ w' = w := by
  have hle := skip_le (p := nbr) (f := bt s) hst
  rw [← he] at hle
  have HE := hid he
  clear he
  by_cases h3 : st + 3 ≤ e
  · have h0 : (st : Int) < s.size := by omega
    have h1 : (st : Int) + 1 < s.size := by omega
    have h2 : (st : Int) + 2 < s.size := by omega
    have g0 := bt_eq s st (by omega)
    have g1 := bt_eq s (st + 1) (by omega)
    have g2 := bt_eq s (st + 2) (by omega)
    have hd : st + 3 ≤ s.size := by omega
    by_cases a0 : bt s st = m
    · by_cases a1 : bt s (st + 1) = m
      · by_cases a2 : bt s (st + 2) = m
        · have ht : mk s st m = soe s (st + 3) := by simp [mk, three, a0, a1, a2, hd]
          rw [ht]
          rw [a0] at g0; rw [a1] at g1; rw [a2] at g2
          clear ht a0 a1 a2
          by_cases h4 : st + 3 = s.size
          · have e : soe s (st + 3) = true := by simp [soe]; omega
            have h4' : (st : Int) + 3 = (s.size : Int) := by omega
            rw [e]
            clear e h4
            go_enter Try.func29, Try.ntmps29
            go_wp2_with fail
            go_ret
            exact ⟨rfl, rfl⟩
          · have h4' : ((st : Int) + 3 == (s.size : Int)) = false := ne_beq (by omega)
            have hlt : st + 3 < s.size := by omega
            have hlt' : (st : Int) + 3 < s.size := by omega
            have g3 := bt_eq s (st + 3) hlt
            have e : soe s (st + 3) = bob (bt s (st + 3)) := by simp [soe]; omega
            rw [e]
            have HB := hid (bob_any (bt s (st + 3)) w)
            clear e h4
            go_enter Try.func29, Try.ntmps29
            go_wp2_with (go_at_call 20; refine HB.out.mono ?_; rintro e w' ⟨rfl, rfl⟩)
            go_ret
            exact ⟨rfl, rfl⟩
        · have ht : mk s st m = false := by simp [mk, three, a2]
          have c2 : (bt s (st + 2) != m) = true := by simpa using a2
          rw [ht]
          rw [a0] at g0; rw [a1] at g1
          clear ht a0 a1 a2
          go_enter Try.func29, Try.ntmps29
          go_wp2_with fail
          go_ret
          exact ⟨rfl, rfl⟩
      · have ht : mk s st m = false := by simp [mk, three, a1]
        have c1 : (bt s (st + 1) != m) = true := by simpa using a1
        rw [ht]
        rw [a0] at g0
        clear ht a0 a1
        go_enter Try.func29, Try.ntmps29
        go_wp2_with fail
        go_ret
        exact ⟨rfl, rfl⟩
    · have ht : mk s st m = false := by simp [mk, three, a0]
      have c0 : (bt s st != m) = true := by simpa using a0
      rw [ht]
      clear ht a0
      go_enter Try.func29, Try.ntmps29
      go_wp2_with fail
      go_ret
      exact ⟨rfl, rfl⟩
  · have hf : mk s st m = false := by
      by_cases ht : three s st m = true
      · exfalso
        simp only [three, Bool.and_eq_true, decide_eq_true_eq, beq_iff_eq] at ht
        obtain ⟨ha, hb, hc, hd⟩ := ht
        have := eol_three (f := bt s) ha (by omega) (by omega) (by omega)
        rw [← HE.out] at this
        omega
      · simp [mk, ht]
    rw [hf]
    clear hf
    go_enter Try.func29, Try.ntmps29
    go_wp2_with fail
    go_ret
    exact ⟨rfl, rfl⟩
end Go.Proofs.Qxb6603404a
