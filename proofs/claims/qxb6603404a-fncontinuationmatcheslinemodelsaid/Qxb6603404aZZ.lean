/-
  continuation WHERE NOTHING FOLLOWS, AND THE WALK OF ZZContinuation (seat b6603404a).
-/
import Derived.Test.Qxb6603404aCont
import Derived.Deep.QuietTactic
import Derived.BigQuiet
namespace Go.Proofs.Qxb6603404a
open Go.RowKit Plain
set_option linter.unusedVariables false

set_option maxHeartbeats 1000000 in
/-- pos stands at no break. -/
theorem cont_no (s : ByteArray) (P : Nat) (pos line ls parent : Int) (flow : Bool) (w : World) (hs : s.size ≤ 1048576) (h : Fields w P s pos line ls) (h0 : 0 ≤ pos) (hno : ¬ (pos < s.size ∧ bt s pos.toNat = 10)) :
    Calls Try.prog 27 #[.pointer (some ⟨P, 0, none⟩), .int .i64 parent, .bool flow] w fun e w' => e = .returned (.tuple #[.int .i64 0, .bool false]) ∧ w' = w := by
  have c1 := h.src; have c2 := h.pos
  by_cases hlt : pos < s.size
  · obtain ⟨p, rfl⟩ : ∃ p : Nat, pos = p := ⟨pos.toNat, by omega⟩
    have g := bt_eq s p (by omega)
    have hb : (bt s p == 10) = false := ne_beq (fun e => hno ⟨hlt, by rw [Int.toNat_natCast]; exact e⟩)
    clear hno
    go_enter Try.func27, Try.ntmps27
    go_wp2_with fail
    go_loop [8, 9] (fun u v => u = .int .i64 (-1) ∧ v = .int .i64 p) (fun _ _ => 0)
    case atStart => exact ⟨rfl, rfl⟩
    case round =>
      obtain ⟨rfl, rfl⟩ := hrel
      go_wp2_with fail
      go_ret2
      exact ⟨rfl, rfl⟩
  · clear hno
    go_enter Try.func27, Try.ntmps27
    go_wp2_with fail
    go_loop [8, 9] (fun u v => u = .int .i64 (-1) ∧ v = .int .i64 pos) (fun _ _ => 0)
    case atStart => exact ⟨rfl, rfl⟩
    case round =>
      obtain ⟨rfl, rfl⟩ := hrel
      go_wp2_with fail
      go_ret2
      exact ⟨rfl, rfl⟩

/-- The search's answer from pos. -/
def found (s : ByteArray) (parent : Int) (flow : Bool) (pos : Int) : Option (Nat × Nat × Nat) :=
  if pos < s.size ∧ bt s pos.toNat = 10 then scan (bt s) s.size (judge s parent flow) (pos.toNat + 1) 0 (pos.toNat + 1) else none

/-- The five results. -/
def outT (R : Option (Nat × Nat × Nat)) (pos line ls : Int) : Value :=
  match R with
  | none => .tuple #[.int .i64 pos, .int .i64 line, .int .i64 ls, .int .i64 0, .bool false]
  | some (c, st, b) => .tuple #[.int .i64 c, .int .i64 (wrap64 (line + ((b : Int) + 1))), .int .i64 st, .int .i64 b, .bool true]

/-- continuation, whatever pos is. -/
theorem cont_all (s : ByteArray) (P : Nat) (pos line ls parent : Int) (flow : Bool) (w : World) (hs : s.size ≤ 1048576) (h : Fields w P s pos line ls) (h0 : 0 ≤ pos) :
    Calls Try.prog 27 #[.pointer (some ⟨P, 0, none⟩), .int .i64 parent, .bool flow] w fun e w' => Answer (found s parent flow pos) P line w e w' := by
  by_cases hb : pos < s.size ∧ bt s pos.toNat = 10
  · obtain ⟨p, rfl⟩ : ∃ p : Nat, pos = p := ⟨pos.toNat, by omega⟩
    rw [Int.toNat_natCast] at hb
    exact cont_any s P p line ls parent flow w hs h (by omega) hb.2 _ (by unfold found; rw [Int.toNat_natCast, if_pos hb])
  · refine (cont_no s P pos line ls parent flow w hs h h0 hb).mono fun e w' ⟨he, hw⟩ => ?_
    exact .inl ⟨by unfold found; rw [if_neg hb], he, hw⟩

theorem grown_drewN {W w : World} (h : Grown W w) (n : Nat) : Grown W (w.drewN n) := by
  induction n generalizing w with
  | zero => exact h
  | succ n ih => exact ih h.drew

theorem parser_new (w : World) (file s : ByteArray) (pos line ls : Int) : Fields (w.alloc (.cells #[.string file, .string s, .int .i64 pos, .int .i64 line, .int .i64 ls] 35)) w.heap.size s pos line ls := by
  constructor <;> go_simp

set_option maxHeartbeats 1000000 in
theorem zz_any (file s : ByteArray) (pos line ls parent : Int) (flow : Bool) (w : World) (hs : s.size ≤ 1048576) (h0 : 0 ≤ pos) :
    Calls Try.prog 17 #[.string file, .string s, .int .i64 pos, .int .i64 line, .int .i64 ls, .int .i64 parent, .bool flow] w fun e w' => e = .returned (outT (found s parent flow pos) pos line ls) ∧ Grown w w' := by
  have HC := hid (fun w P h => cont_all s P pos line ls parent flow w hs h h0)
  have HP := hid (parser_new w file s pos line ls)
  have hg0 : Grown w (w.alloc (.cells #[.string file, .string s, .int .i64 pos, .int .i64 line, .int .i64 ls] 35)) := (Grown.refl w).alloc _ _
  have HG := hid hg0
  clear hg0
  go_enter Try.func17, Try.ntmps17
  go_wp2_with fail
  refine (HC.out _ _ HP.out).mono ?_
  rintro e w1 (⟨hR, rfl, hw⟩ | ⟨c, st, b, hR, rfl, hm⟩)
  · have HR := hid hR
    subst hw
    clear hR HC HP
    go_wp2_with fail
    go_quiet (fail)
    go_wp2_with fail
    rw [HR.out]
    refine bodyPost_ret (v := .tuple #[.int .i64 pos, .int .i64 line, .int .i64 ls, .int .i64 0, .bool false]) (by simp [results, Try.results17, go_sem]) rfl ⟨rfl, ?_⟩
    exact grown_drewN HG.out _
  · have HR := hid hR
    have HM := hid hm
    have p2 := hm.pos; have p3 := hm.line; have p4 := hm.ls
    clear hR HC HP hm
    go_wp2_with fail
    go_quiet (fail)
    go_wp2_with fail
    rw [HR.out]
    refine bodyPost_ret (v := .tuple #[.int .i64 c, .int .i64 (wrap64 (line + ((b : Int) + 1))), .int .i64 st, .int .i64 b, .bool true]) (by simp [results, Try.results17, go_sem]) rfl ⟨rfl, ?_⟩
    exact grown_drewN (HM.out.grown w (Nat.le_refl _) HG.out) _
end Go.Proofs.Qxb6603404a
