/-
  THE BREAKS COUNTED; THE PARSER's FIELDS MOVED (seat b6603404a).
-/
import Derived.Test.Qxb6603404aMark
namespace Go.Proofs.Qxb6603404a
open Go.RowKit Plain
set_option linter.unusedVariables false

/-- The line that starts at st, its first character at c, does not go on. -/
def judge (s : ByteArray) (parent : Int) (flow : Bool) (st c : Nat) : Bool :=
  bt s c == 35 || (if flow = true then flw (bt s c) || (bt s c == 58 && via s (c + 1)) else decide (((skip spc (bt s) s.size st : Nat) : Int) - (st : Int) ≤ parent) || (mk s st 45 || mk s st 46))

/-- How many breaks stand in [a, b). -/
def cnt (s : ByteArray) (a b : Nat) : Nat := ((s.data.toList.drop a).take (b - a)).count 10

theorem cnt_self (s : ByteArray) (a : Nat) : cnt s a a = 0 := by simp [cnt]
theorem cnt_succ (s : ByteArray) (a k : Nat) (h : a ≤ k) (hk : k < s.size) : cnt s a (k + 1) = cnt s a k + (if bt s k = 10 then 1 else 0) := by
  have hl : k < s.data.toList.length := hk
  unfold cnt
  rw [show k + 1 - a = (k - a) + 1 by omega, List.take_add_one, List.getElem?_drop, show a + (k - a) = k by omega, List.getElem?_eq_getElem hl, List.count_append]
  have hb := bt_list s k _ (List.getElem?_eq_getElem hl)
  congr 1
  simp only [Option.toList_some, List.count_singleton]
  by_cases h10 : s.data.toList[k] = 10
  · have e : bt s k = 10 := by rw [hb, h10]; rfl
    rw [if_pos e, h10]; rfl
  · have e : ¬ bt s k = 10 := by
      intro e
      rw [hb] at e
      apply h10
      apply UInt8.toNat_inj.1
      have : (10 : UInt8).toNat = 10 := rfl
      omega
    rw [if_neg e, if_neg (by rw [beq_iff_eq]; exact h10)]
theorem cnt_break (s : ByteArray) (a k : Nat) (h : a ≤ k) (hk : k < s.size) (hb : bt s k = 10) : cnt s a (k + 1) = cnt s a k + 1 := by rw [cnt_succ s a k h hk, if_pos hb]
theorem cnt_blanks (s : ByteArray) (a k : Nat) (h : a ≤ k) : ∀ (m : Nat), k + m ≤ s.size → (∀ j, k ≤ j → j < k + m → blk (bt s j) = true) → cnt s a (k + m) = cnt s a k := by
  intro m
  induction m with
  | zero => intro _ _; rfl
  | succ m ih =>
    intro hm hj
    have h1 := ih (by omega) (fun j h1 h2 => hj j h1 (by omega))
    have h2 := blk_nbr _ (hj (k + m) (by omega) (by omega))
    have h3 : ¬ bt s (k + m) = 10 := by intro e; rw [e] at h2; exact absurd h2 (by decide)
    rw [show k + (m + 1) = (k + m) + 1 by omega, cnt_succ s a (k + m) (by omega) (by omega), if_neg h3, h1]
    rfl

/-- The parser's fields in memory. -/
structure Fields (w : World) (P : Nat) (s : ByteArray) (pos line ls : Int) : Prop where
  src : w.cell? ⟨P, 1, none⟩ = some (.string s)
  pos : w.cell? ⟨P, 2, none⟩ = some (.int .i64 pos)
  line : w.cell? ⟨P, 3, none⟩ = some (.int .i64 line)
  ls : w.cell? ⟨P, 4, none⟩ = some (.int .i64 ls)
  f2 : w.frozen? ⟨P, 2, none⟩ = false
  f3 : w.frozen? ⟨P, 3, none⟩ = false
  f4 : w.frozen? ⟨P, 4, none⟩ = false

/-- What continuation has done to the parser: three fields; nothing else that was there. -/
structure Moved (w w' : World) (P : Nat) (pos line ls : Int) : Prop where
  pos : w'.cell? ⟨P, 2, none⟩ = some (.int .i64 pos)
  line : w'.cell? ⟨P, 3, none⟩ = some (.int .i64 line)
  ls : w'.cell? ⟨P, 4, none⟩ = some (.int .i64 ls)
  grown : ∀ W, W.heap.size ≤ P → Grown W w → Grown W w'

theorem moved {w : World} {P : Nat} {s : ByteArray} {p l q : Int} (h : Fields w P s p l q) (p' l' q' : Int) :
    Moved w (((w.setCell ⟨P, 3, none⟩ (.int .i64 l')).setCell ⟨P, 4, none⟩ (.int .i64 q')).setCell ⟨P, 2, none⟩ (.int .i64 p')).drew P p' l' q' := by
  have c2 := h.pos; have c3 := h.line; have c4 := h.ls
  refine ⟨?_, ?_, ?_, fun W hW hg => ?_⟩
  · go_simp
  · go_simp
  · go_simp
  · exact (((hg.setCell hW _).setCell hW _).setCell hW _).drew
end Go.Proofs.Qxb6603404a
