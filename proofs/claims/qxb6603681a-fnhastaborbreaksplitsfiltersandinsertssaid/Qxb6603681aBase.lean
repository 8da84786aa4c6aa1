/-
  THE CALLEES' WALKS OF SEAT b6603681a: bytes.IndexByte, hasTabOrBreak, zzIsTabOrBreakByte, zzCloneBytes.
-/
import Derived.Test.Qxb6603681aRows
import Derived.WalkKit
import Derived.WalkSpells
import Derived.Deep.OwnRows
import Derived.Lib.BytesEntry
namespace Go.Proofs.Qxb6603681a
open Go.RowKit
set_option linter.unusedVariables false

theorem hid {p : Prop} (h : p) : Hid p := h
/-- The j-th number: a name that the walk does not lay open. -/
def nth (xs : List Int) (j : Nat) : Int := xs.getD j 0
theorem ret_bool {a b : Bool} (h : a = b) : Ending.returned (.bool a) = .returned (.bool b) := by rw [h]
theorem ne_beq {x c : Int} (h : ¬ x = c) : (x == c) = false := beq_eq_false_iff_ne.2 h

/-- A tab, a line feed or a carriage return. -/
def isT (x : Int) : Bool := x == 9 || (x == 10 || x == 13)
def hasT (xs : List Int) : Bool := xs.any isT

set_option maxHeartbeats 400000 in
/-- zzIsTabOrBreakByte. -/
theorem isT_any (x : Int) (w : World) : Calls Try.prog 8 #[.int .u8 x] w fun e w' => e = .returned (.bool (isT x)) ∧ w' = w := by
  by_cases h1 : x = 9
  · subst h1; go_enter Try.func8, Try.ntmps8; go_wp2; go_ret; exact ⟨rfl, rfl⟩
  by_cases h2 : x = 10
  · subst h2; go_enter Try.func8, Try.ntmps8; go_wp2; go_ret; exact ⟨rfl, rfl⟩
  by_cases h3 : x = 13
  · subst h3; go_enter Try.func8, Try.ntmps8; go_wp2; go_ret; exact ⟨rfl, rfl⟩
  have g1 := ne_beq h1; have g2 := ne_beq h2; have g3 := ne_beq h3
  have hf : isT x = false := by simp [isT, h1, h2, h3]
  rw [hf]
  clear h1 h2 h3 hf
  go_enter Try.func8, Try.ntmps8; go_wp2; go_ret; exact ⟨rfl, rfl⟩

/-- A slice value that holds the bytes xs. -/
def Has (w : World) (v : Value) (xs : List Int) : Prop :=
  (∀ x ∈ xs, 0 ≤ x ∧ x < 256) ∧
  ((v = .slice none 0 0 ∧ xs = []) ∨ ∃ b o c : Nat, v = .slice (some ⟨b, o, none⟩) xs.length c ∧ ∀ i, i < xs.length → w.cell? ⟨b, o + i, none⟩ = some (.int .u8 (xs.getD i 0)))

set_option maxHeartbeats 1000000 in
set_option maxRecDepth 100000 in
theorem idx_some (b o n c : Nat) (xs : List Int) (cv : Int) (w : World) (hx : xs.length = n)
    (hc : ∀ i, i < n → w.cell? ⟨b, o + i, none⟩ = some (.int .u8 (xs.getD i 0))) :
    Calls Try.prog 18 #[.slice (some ⟨b, o, none⟩) n c, .int .u8 cv] w fun e w' => e = .returned (.int .i64 (Lib.indexByte (Lib.bytesOf xs) cv.toNat.toUInt8)) ∧ w' = w := by
  go_enter Try.func18, Try.ntmps18
  go_wp2
  rw [run_callFunc_extern Try.func19 (by kernel_rfl) (by kernel_rfl) (by kernel_rfl) (e := Extern.BytealgIndexByte.indexByte) (by kernel_rfl), Lib.run_indexByteSlice w b o n c xs hx hc cv]
  simp only [Result.andThen]
  rw [Oper.upon_value]
  go_wp2
  go_ret
  exact ⟨rfl, rfl⟩

set_option maxHeartbeats 1000000 in
set_option maxRecDepth 100000 in
theorem idx_nil (cv : Int) (w : World) : Calls Try.prog 18 #[.slice none 0 0, .int .u8 cv] w fun e w' => e = .returned (.int .i64 (-1)) ∧ w' = w := by
  go_enter Try.func18, Try.ntmps18
  go_wp2
  rw [run_callFunc_extern Try.func19 (by kernel_rfl) (by kernel_rfl) (by kernel_rfl) (e := Extern.BytealgIndexByte.indexByte) (by kernel_rfl), Lib.run_indexByteNil w 0 0 cv]
  simp only [Result.andThen]
  rw [Oper.upon_value]
  go_wp2
  go_ret
  exact ⟨rfl, rfl⟩

/-- The answer's sign: is the byte there? -/
theorem indexByte_sign (c : Int) (h0 : 0 ≤ c) (h1 : c < 256) : ∀ (xs : List Int), (∀ x ∈ xs, 0 ≤ x ∧ x < 256) → (Lib.indexByte (Lib.bytesOf xs) c.toNat.toUInt8 < 0 ↔ c ∉ xs) := by
  intro xs
  induction xs with
  | nil => intro _; simp [Lib.bytesOf, Lib.indexByte]
  | cons x l ih =>
    intro h
    have hx := h x (List.mem_cons_self ..)
    have ih := ih (fun y hy => h y (List.mem_cons_of_mem _ hy))
    have e : (x.toNat.toUInt8 == c.toNat.toUInt8) = decide (x = c) := by
      rw [Bool.eq_iff_iff, beq_iff_eq, decide_eq_true_iff]
      constructor
      · intro h
        have := congrArg UInt8.toNat h
        simp at this
        omega
      · rintro rfl; rfl
    have e2 : Lib.bytesOf (x :: l) = x.toNat.toUInt8 :: Lib.bytesOf l := rfl
    have hge := Lib.indexByte_ge (Lib.bytesOf l) c.toNat.toUInt8
    rw [e2]
    unfold Lib.indexByte
    rw [e]
    by_cases hxc : x = c
    · subst hxc; simp
    · have hxc' : ¬ c = x := fun e => hxc e.symm
      simp only [hxc, decide_false, Bool.false_eq_true, if_false, List.mem_cons, hxc', false_or]
      by_cases h2 : Lib.indexByte (Lib.bytesOf l) c.toNat.toUInt8 = -1
      · rw [h2] at ih ⊢
        simpa using ih
      · have h3 : (Lib.indexByte (Lib.bytesOf l) c.toNat.toUInt8 == -1) = false := beq_eq_false_iff_ne.2 h2
        rw [h3, if_neg (by decide)]
        constructor
        · intro h4; omega
        · intro h4; have := ih.2 h4; omega

/-- bytes.IndexByte of a slice that holds xs. -/
theorem idx_any {w : World} {v : Value} {xs : List Int} (h : Has w v xs) (c : Int) (h0 : 0 ≤ c) (h1 : c < 256) : ∃ r : Int, (r < 0 ↔ c ∉ xs) ∧ Calls Try.prog 18 #[v, .int .u8 c] w fun e w' => e = .returned (.int .i64 r) ∧ w' = w := by
  obtain ⟨hb, ⟨rfl, rfl⟩ | ⟨b, o, cp, rfl, hc⟩⟩ := h
  · exact ⟨-1, by simp, idx_nil c w⟩
  · exact ⟨_, indexByte_sign c h0 h1 xs hb, idx_some b o xs.length cp xs c w rfl hc⟩

theorem hasT_iff (xs : List Int) : hasT xs = (decide (10 ∈ xs) || (decide (9 ∈ xs) || decide (13 ∈ xs))) := by
  rw [Bool.eq_iff_iff]
  simp only [hasT, List.any_eq_true, isT, Bool.or_eq_true, beq_iff_eq, decide_eq_true_eq]
  constructor
  · rintro ⟨x, hx, rfl | rfl | rfl⟩
    · exact .inr (.inl hx)
    · exact .inl hx
    · exact .inr (.inr hx)
  · rintro (h | h | h)
    · exact ⟨10, h, .inr (.inl rfl)⟩
    · exact ⟨9, h, .inl rfl⟩
    · exact ⟨13, h, .inr (.inr rfl)⟩

set_option maxHeartbeats 1000000 in
/-- ZZhasTabOrBreak. -/
theorem has_any {w : World} {v : Value} {xs : List Int} (h : Has w v xs) : Calls Try.prog 9 #[v] w fun e w' => e = .returned (.bool (hasT xs)) ∧ w' = w := by
  obtain ⟨r1, s1, k1⟩ := idx_any h 10 (by decide) (by decide)
  obtain ⟨r2, s2, k2⟩ := idx_any h 9 (by decide) (by decide)
  obtain ⟨r3, s3, k3⟩ := idx_any h 13 (by decide) (by decide)
  have hh := hasT_iff xs
  have H1 := hid k1; have H2 := hid k2; have H3 := hid k3
  clear k1 k2 k3 h
  by_cases h1 : 10 ∈ xs
  · have e : hasT xs = true := by rw [hh]; simp [h1]
    have g1 : 0 ≤ r1 := by have := mt s1.1 (fun h => h h1); omega
    rw [e]
    clear e hh s1 s2 s3 h1
    go_enter Try.func9, Try.ntmps9
    go_wp2_with (first | (go_at_call 15; go_in) | (go_at_call 18; refine H1.out.mono ?_; rintro e w' ⟨rfl, rfl⟩))
    go_ret
    exact ⟨rfl, rfl⟩
  · have g1 : r1 < 0 := s1.2 h1
    by_cases h2 : 9 ∈ xs
    · have e : hasT xs = true := by rw [hh]; simp [h2]
      have g2 : 0 ≤ r2 := by have := mt s2.1 (fun h => h h2); omega
      rw [e]
      clear e hh s1 s2 s3 h1 h2
      go_enter Try.func9, Try.ntmps9
      go_wp2_with (go_at_call 15; go_in)
      refine H1.out.mono ?_
      rintro e w' ⟨rfl, hw⟩
      have hw' := hw.symm
      subst hw'
      go_wp2_with fail
      refine H2.out.mono ?_
      rintro e w' ⟨rfl, hw⟩
      have hw' := hw.symm
      subst hw'
      go_wp2_with fail
      go_ret
      exact ⟨rfl, rfl⟩
    · have g2 : r2 < 0 := s2.2 h2
      have e : hasT xs = decide (0 ≤ r3) := by
        rw [hh]
        simp only [h1, h2, decide_false, Bool.false_or]
        rw [Bool.eq_iff_iff, decide_eq_true_iff, decide_eq_true_iff]
        constructor
        · intro h; have := mt s3.1 (fun h' => h' h); omega
        · intro h
          by_cases h3 : 13 ∈ xs
          · exact h3
          · have := s3.2 h3; omega
      rw [e]
      clear e hh s1 s2 s3 h1 h2
      go_enter Try.func9, Try.ntmps9
      go_wp2_with (go_at_call 15; go_in)
      refine H1.out.mono ?_
      rintro e w' ⟨rfl, hw⟩
      have hw' := hw.symm
      subst hw'
      go_wp2_with fail
      refine H2.out.mono ?_
      rintro e w' ⟨rfl, hw⟩
      have hw' := hw.symm
      subst hw'
      go_wp2_with fail
      refine H3.out.mono ?_
      rintro e w' ⟨rfl, hw⟩
      have hw' := hw.symm
      subst hw'
      go_wp2_with fail
      go_ret
      exact ⟨ret_bool (by simp; try omega), rfl⟩

/-! ### zzCloneBytes -/
theorem info5 : (Try.prog.info? 5).map (fun i => (i.zero, i.size, i.bytes)) = some (some (.int .u8 0), 1, 1) := by kernel_rfl

/-- The new row when k numbers are copied. -/
def part (xs : List Int) (k : Nat) : Nat → Value := fun j => if j < k then .int .u8 (nth xs j) else .int .u8 0

theorem part_step {w wr : World} {n k : Nat} {xs : List Int} (h : wr.rowIs w.heap.size 5 n (part xs k)) : (wr.setCell ⟨w.heap.size, k, none⟩ (.int .u8 (nth xs k))).rowIs w.heap.size 5 n (part xs (k + 1)) :=
  (h.set k _).congr fun j _ => by
    simp only [part]
    by_cases e : j = k
    · subst e; simp
    · rw [if_neg e]
      by_cases hlt : j < k
      · rw [if_pos hlt, if_pos (by omega)]
      · rw [if_neg hlt, if_neg (by omega)]

/-- What the clone is: a new row with the numbers xs, at the head of block B. -/
structure Cloned (w w' : World) (n : Nat) (xs : List Int) : Prop where
  below : Below w.heap.size w w'
  lt : w.heap.size < w'.heap.size
  cell : ∀ j, j < n → w'.cell? ⟨w.heap.size, j, none⟩ = some (.int .u8 (nth xs j))

set_option maxHeartbeats 400000 in
theorem clone_some (b o n c : Nat) (xs : List Int) (w : World) (hn : n ≤ 1048576)
    (hc : ∀ j, j < n → w.cell? ⟨b, o + j, none⟩ = some (.int .u8 (nth xs j))) :
    Calls Try.prog 7 #[.slice (some ⟨b, o, none⟩) n c] w fun e w' => e = .returned (.slice (some ⟨w.heap.size, 0, none⟩) n n) ∧ Cloned w w' n xs := by
  have hmk := run_make_row' (P := Try.prog) 22 5 (.int .u8 0) 1 Try.underlying22 info5 rfl .i64 .i64 n (by omega) (by omega)
  have q22 : ∀ (w : World) (a : Option Addr) (n c n' c' : Nat), (binOp .eql 22 (.slice a n c) (.slice none n' c')).run Try.prog w = .ok (.bool a.isNone) w := fun w a n c n' c' => Lib.run_eql_slice_nil w _ _ a n c n' c' Try.underlying22
  go_enter Try.func7, Try.ntmps7
  go_wp2
  clear hmk q22
  go_loopw [4] (fun i wr => ∃ k : Nat, k ≤ n ∧ i = .int .i64 k ∧ Below w.heap.size w wr ∧ wr.rowIs w.heap.size 5 n (part xs k)) (fun i _ => n - (intOf i).toNat)
  case atStart => exact ⟨0, Nat.zero_le _, rfl, (Below.refl _ _).alloc (Nat.le_refl _) _, (World.rowIs_made w _ n 5).congr (fun j _ => by simp [part])⟩
  case round =>
    obtain ⟨k, hk, rfl, hb, hrow⟩ := hrel
    by_cases hlt : k < n
    · have hbw : b < w.heap.size := World.block_lt_of_cell? _ _ (hc k hlt)
      have g : wr.cell? ⟨b, o + k, none⟩ = some (.int .u8 (nth xs k)) := by rw [hb.cell (p := ⟨b, o + k, none⟩) hbw]; exact hc k hlt
      have g1 : wr.cell? ⟨w.heap.size, k, none⟩ = some (.int .u8 0) := by have := hrow.cell hlt; simpa [part] using this
      have g2 : wr.frozen? ⟨w.heap.size, k, none⟩ = false := hrow.frozen k
      go_wp2
      go_roundw
      case rel => exact ⟨k + 1, by omega, by go_num, hb.setCell (Nat.le_refl _) _, part_step hrow⟩
      case measure => simp [intOf]; omega
    · go_wp2
      go_ret
      have e : k = n := by omega
      subst e
      refine ⟨rfl, hb, hrow.lt, fun j hj => ?_⟩
      rw [hrow.cell hj]
      simp [part, hj]

set_option maxHeartbeats 400000 in
/-- No byte, whatever the address. -/
theorem clone_empty (x : Addr) (c : Nat) (xs : List Int) (w : World) :
    Calls Try.prog 7 #[.slice (some x) 0 c] w fun e w' => e = .returned (.slice (some ⟨w.heap.size, 0, none⟩) 0 0) ∧ Cloned w w' 0 xs := by
  have hmk := run_make_row' (P := Try.prog) 22 5 (.int .u8 0) 1 Try.underlying22 info5 rfl .i64 .i64 0 (by omega) (by omega)
  have hmk' : ∀ w, (Instr.makeSlice 22 (.int .i64 0) (.int .i64 0)).run Try.prog w = .ok (.slice (some ⟨w.heap.size, 0, none⟩) 0 0) (w.alloc (.cells (madeCells #[.int .u8 0] 0) 5)) := hmk
  have q22 : ∀ (w : World) (a : Option Addr) (n c n' c' : Nat), (binOp .eql 22 (.slice a n c) (.slice none n' c')).run Try.prog w = .ok (.bool a.isNone) w := fun w a n c n' c' => Lib.run_eql_slice_nil w _ _ a n c n' c' Try.underlying22
  clear hmk
  go_enter Try.func7, Try.ntmps7
  go_wp2
  clear hmk' q22
  go_loop [4] (fun i => i = .int .i64 0) (fun i => 0)
  case atStart => exact rfl
  case round =>
    obtain rfl := hrel
    go_wp2
    go_ret
    exact ⟨rfl, (Below.refl _ _).alloc (Nat.le_refl _) _, by simp, fun j hj => absurd hj (Nat.not_lt_zero _)⟩

set_option maxHeartbeats 400000 in
theorem clone_nil (w : World) : Calls Try.prog 7 #[.slice none 0 0] w fun e w' => e = .returned (.slice none 0 0) ∧ w' = w := by
  have q22 : ∀ (w : World) (a : Option Addr) (n c n' c' : Nat), (binOp .eql 22 (.slice a n c) (.slice none n' c')).run Try.prog w = .ok (.bool a.isNone) w := fun w a n c n' c' => Lib.run_eql_slice_nil w _ _ a n c n' c' Try.underlying22
  go_enter Try.func7, Try.ntmps7
  go_wp2
  go_ret
  exact ⟨rfl, rfl⟩
end Go.Proofs.Qxb6603681a
