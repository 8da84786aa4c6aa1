/-
  THE SMALL WALKS OF SEAT b6603404a: tests of one byte; spaceOrEnd.
-/
import Derived.Test.Qxb6603404aRows
import Derived.Test.Qxb6603404aPlain
import Derived.WalkKit
import Derived.WalkSpells
namespace Go.Proofs.Qxb6603404a
open Go.RowKit Plain
set_option linter.unusedVariables false

theorem hid {p : Prop} (h : p) : Hid p := h
/-- The k-th byte's number. -/
def bt (s : ByteArray) (k : Nat) : Int := ((s.data.toList.getD k 0).toNat : Int)
theorem bt_eq (s : ByteArray) (k : Nat) (h : k < s.size) : ((s[k].toNat : Nat) : Int) = bt s k := by
  have hl : k < s.data.toList.length := h
  unfold bt
  rw [List.getD_eq_getElem?_getD, List.getElem?_eq_getElem hl]
  rfl

/-- A blank; a blank or a break; a flow byte. -/
def bob (x : Int) : Bool := x == 32 || (x == 9 || x == 10)
def flw (x : Int) : Bool := x == 44 || (x == 91 || (x == 93 || (x == 123 || x == 125)))
def soe (s : ByteArray) (i : Nat) : Bool := decide (s.size ≤ i) || bob (bt s i)

theorem ret_bool {a b : Bool} (h : a = b) : Ending.returned (.bool a) = .returned (.bool b) := by rw [h]
theorem ne_beq {x c : Int} (h : ¬ x = c) : (x == c) = false := beq_eq_false_iff_ne.2 h

set_option maxHeartbeats 400000 in
/-- zzBlank. -/
theorem blank_any (x : Int) (w : World) : Calls Try.prog 13 #[.int .u8 x] w fun e w' => e = .returned (.bool (blk x)) ∧ w' = w := by
  by_cases h1 : x = 32
  · subst h1; go_enter Try.func13, Try.ntmps13; go_wp2; go_ret; exact ⟨rfl, rfl⟩
  by_cases h2 : x = 9
  · subst h2; go_enter Try.func13, Try.ntmps13; go_wp2; go_ret; exact ⟨rfl, rfl⟩
  have g1 := ne_beq h1; have g2 := ne_beq h2
  have hf : blk x = false := by simp [blk, h1, h2]
  rw [hf]
  clear h1 h2 hf
  go_enter Try.func13, Try.ntmps13; go_wp2; go_ret; exact ⟨rfl, rfl⟩

set_option maxHeartbeats 400000 in
/-- zzBlankOrBreak. -/
theorem bob_any (x : Int) (w : World) : Calls Try.prog 20 #[.int .u8 x] w fun e w' => e = .returned (.bool (bob x)) ∧ w' = w := by
  by_cases h1 : x = 32
  · subst h1; go_enter Try.func20, Try.ntmps20; go_wp2; go_ret; exact ⟨rfl, rfl⟩
  by_cases h2 : x = 9
  · subst h2; go_enter Try.func20, Try.ntmps20; go_wp2; go_ret; exact ⟨rfl, rfl⟩
  by_cases h3 : x = 10
  · subst h3; go_enter Try.func20, Try.ntmps20; go_wp2; go_ret; exact ⟨rfl, rfl⟩
  have g1 := ne_beq h1; have g2 := ne_beq h2; have g3 := ne_beq h3
  have hf : bob x = false := by simp [bob, h1, h2, h3]
  rw [hf]
  clear h1 h2 h3 hf
  go_enter Try.func20, Try.ntmps20; go_wp2; go_ret; exact ⟨rfl, rfl⟩

set_option maxHeartbeats 800000 in
/-- zzFlowByte. -/
theorem flow_any (x : Int) (w : World) : Calls Try.prog 28 #[.int .u8 x] w fun e w' => e = .returned (.bool (flw x)) ∧ w' = w := by
  by_cases h1 : x = 44
  · subst h1; go_enter Try.func28, Try.ntmps28; go_wp2; go_ret; exact ⟨rfl, rfl⟩
  by_cases h2 : x = 91
  · subst h2; go_enter Try.func28, Try.ntmps28; go_wp2; go_ret; exact ⟨rfl, rfl⟩
  by_cases h3 : x = 93
  · subst h3; go_enter Try.func28, Try.ntmps28; go_wp2; go_ret; exact ⟨rfl, rfl⟩
  by_cases h4 : x = 123
  · subst h4; go_enter Try.func28, Try.ntmps28; go_wp2; go_ret; exact ⟨rfl, rfl⟩
  by_cases h5 : x = 125
  · subst h5; go_enter Try.func28, Try.ntmps28; go_wp2; go_ret; exact ⟨rfl, rfl⟩
  have g1 := ne_beq h1; have g2 := ne_beq h2; have g3 := ne_beq h3; have g4 := ne_beq h4; have g5 := ne_beq h5
  have hf : flw x = false := by simp [flw, h1, h2, h3, h4, h5]
  rw [hf]
  clear h1 h2 h3 h4 h5 hf
  go_enter Try.func28, Try.ntmps28; go_wp2; go_ret; exact ⟨rfl, rfl⟩

set_option maxHeartbeats 800000 in
/-- isFlowIndicator. -/
theorem isFlow_any (x : Int) (w : World) : Calls Try.prog 31 #[.int .u8 x] w fun e w' => e = .returned (.bool (flw x)) ∧ w' = w := by
  by_cases h1 : x = 44
  · subst h1; go_enter Try.func31, Try.ntmps31; go_wp2; go_ret; exact ⟨rfl, rfl⟩
  by_cases h2 : x = 91
  · subst h2; go_enter Try.func31, Try.ntmps31; go_wp2; go_ret; exact ⟨rfl, rfl⟩
  by_cases h3 : x = 93
  · subst h3; go_enter Try.func31, Try.ntmps31; go_wp2; go_ret; exact ⟨rfl, rfl⟩
  by_cases h4 : x = 123
  · subst h4; go_enter Try.func31, Try.ntmps31; go_wp2; go_ret; exact ⟨rfl, rfl⟩
  by_cases h5 : x = 125
  · subst h5; go_enter Try.func31, Try.ntmps31; go_wp2; go_ret; exact ⟨rfl, rfl⟩
  have g1 := ne_beq h1; have g2 := ne_beq h2; have g3 := ne_beq h3; have g4 := ne_beq h4; have g5 := ne_beq h5
  have hf : flw x = false := by simp [flw, h1, h2, h3, h4, h5]
  rw [hf]
  clear h1 h2 h3 h4 h5 hf
  go_enter Try.func31, Try.ntmps31; go_wp2; go_ret; exact ⟨rfl, rfl⟩

set_option maxHeartbeats 800000 in
/-- spaceOrEnd. -/
theorem soe_any (s : ByteArray) (i P : Nat) (w : World) (hs : s.size ≤ 1048576) (hi : i ≤ 1048580) (hc : w.cell? ⟨P, 1, none⟩ = some (.string s)) :
    Calls Try.prog 35 #[.pointer (some ⟨P, 0, none⟩), .int .i64 i] w fun e w' => e = .returned (.bool (soe s i)) ∧ w' = w := by
  by_cases h : i < s.size
  · have g := bt_eq s i h
    have e : soe s i = bob (bt s i) := by simp [soe]; omega
    rw [e]
    clear e
    by_cases h1 : bt s i = 32
    · rw [h1] at g ⊢; clear h1; go_enter Try.func35, Try.ntmps35; go_wp2; go_ret; exact ⟨rfl, rfl⟩
    by_cases h2 : bt s i = 9
    · rw [h2] at g ⊢; clear h1 h2; go_enter Try.func35, Try.ntmps35; go_wp2; go_ret; exact ⟨rfl, rfl⟩
    by_cases h3 : bt s i = 10
    · rw [h3] at g ⊢; clear h1 h2 h3; go_enter Try.func35, Try.ntmps35; go_wp2; go_ret; exact ⟨ret_bool (by simp [bob]), rfl⟩
    have g1 := ne_beq h1; have g2 := ne_beq h2; have g3 := ne_beq h3
    have hf : bob (bt s i) = false := by simp [bob, h1, h2, h3]
    rw [hf]
    clear h1 h2 h3 hf
    go_enter Try.func35, Try.ntmps35; go_wp2; go_ret; exact ⟨ret_bool (by simp; omega), rfl⟩
  · have e : soe s i = true := by simp [soe]; omega
    rw [e]
    clear e
    go_enter Try.func35, Try.ntmps35
    go_wp2
    go_ret
    exact ⟨rfl, rfl⟩

/-- valueIndicatorAt, inside brackets. -/
def via (s : ByteArray) (i : Nat) : Bool := soe s i || flw (bt s i)
set_option maxHeartbeats 800000 in
theorem via_any (s : ByteArray) (i P : Nat) (w : World) (hs : s.size ≤ 1048576) (hi : i ≤ 1048580) (hc : w.cell? ⟨P, 1, none⟩ = some (.string s)) :
    Calls Try.prog 30 #[.pointer (some ⟨P, 0, none⟩), .int .i64 i, .bool true] w fun e w' => e = .returned (.bool (via s i)) ∧ w' = w := by
  have HS := hid (soe_any s i P w hs hi hc)
  have HF := hid (isFlow_any (bt s i) w)
  by_cases h : soe s i = true
  · have e : via s i = true := by simp [via, h]
    rw [e]
    clear e
    go_enter Try.func30, Try.ntmps30
    go_wp2_with (go_at_call 35; refine HS.out.mono ?_; rintro e w' ⟨rfl, rfl⟩)
    go_ret
    exact ⟨rfl, rfl⟩
  · have h' : soe s i = false := by simpa using h
    have hlt : i < s.size := by
      have := h'
      simp [soe] at this
      omega
    have e : via s i = flw (bt s i) := by simp [via, h']
    have g := bt_eq s i hlt
    rw [e]
    clear e h
    go_enter Try.func30, Try.ntmps30
    go_wp2_with (first | (go_at_call 35; refine HS.out.mono ?_; rintro e w' ⟨rfl, rfl⟩) | (go_at_call 31; refine HF.out.mono ?_; rintro e w' ⟨rfl, rfl⟩))
    go_ret
    exact ⟨rfl, rfl⟩
end Go.Proofs.Qxb6603404a
