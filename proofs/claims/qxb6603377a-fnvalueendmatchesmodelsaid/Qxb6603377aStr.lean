/-
  THE WALK OF stringEnd (seat b6603377a).
-/
import Derived.Test.Qxb6603377aIdx
namespace Go.Proofs.Qxb6603377a
open Go.RowKit Plain

theorem hid {p : Prop} (h : p) : Hid p := h
theorem nth_drop (xs : List Int) (m j : Nat) : (xs.drop m).getD j 0 = nth xs (m + j) := by
  simp [nth, List.getD]

/-- The row's cells as stringEnd and its kin read them. -/
structure Holds (w : World) (b o n : Nat) (xs : List Int) : Prop where
  len : xs.length = n
  small : n ≤ 1048576
  byte : ∀ x ∈ xs, 0 ≤ x ∧ x < 256
  cell : ∀ j, j < n → w.cell? ⟨b, o + j, none⟩ = some (.int .u8 (nth xs j))

/-- bytes.IndexByte(data[m:], '"'), m < n. -/
theorem idx_at {w : World} {b o n : Nat} {xs : List Int} (h : Holds w b o n xs) (m : Nat) :
    (Calls Try.prog 28 #[.slice (some ⟨b, o + m, none⟩) (n - m) (n - m), .int .u8 34] w (fun e w' => e = .returned (.int .i64 (-1)) ∧ w' = w) ∧ ∀ j, m ≤ j → j < n → nth xs j ≠ 34) ∨
    ∃ q : Nat, Calls Try.prog 28 #[.slice (some ⟨b, o + m, none⟩) (n - m) (n - m), .int .u8 34] w (fun e w' => e = .returned (.int .i64 q) ∧ w' = w) ∧ m + q < n ∧ nth xs (m + q) = 34 ∧ ∀ j, m ≤ j → j < m + q → nth xs j ≠ 34 := by
  have hl : (xs.drop m).length = n - m := by rw [List.length_drop, h.len]
  have hcall := idx_any b (o + m) (n - m) (n - m) (xs.drop m) 34 w hl (fun j hj => by
    rw [nth_drop, Nat.add_assoc]; exact h.cell (m + j) (by omega))
  rcases indexByte_says 34 (by decide) (by decide) (xs.drop m) (fun x hx => h.byte x (List.mem_of_mem_drop hx)) with ⟨h1, h2⟩ | ⟨q, h1, h2, h3, h4⟩
  · left
    rw [h1] at hcall
    refine ⟨hcall, fun j hj hjn => ?_⟩
    have := h2 (j - m) (by omega)
    rw [nth_drop] at this
    rwa [show m + (j - m) = j by omega] at this
  · right
    rw [h1] at hcall
    refine ⟨q, hcall, by omega, by rw [← nth_drop]; exact h3, fun j hj hjn => ?_⟩
    have := h4 (j - m) (by omega)
    rw [nth_drop] at this
    rwa [show m + (j - m) = j by omega] at this

/-- .. of no byte. -/
theorem idx_empty (b o : Nat) (w : World) : Calls Try.prog 28 #[.slice (some ⟨b, o, none⟩) 0 0, .int .u8 34] w fun e w' => e = .returned (.int .i64 (-1)) ∧ w' = w := by
  have h := idx_any b o 0 0 [] 34 w rfl (fun j hj => absurd hj (Nat.not_lt_zero _))
  have e : Lib.indexByte (Lib.bytesOf []) (34 : Int).toNat.toUInt8 = -1 := rfl
  rw [e] at h
  exact h

set_option maxHeartbeats 1000000 in
theorem str_any (b o n : Nat) (xs : List Int) (i : Nat) (w : World) (h : Holds w b o n xs) (hi : i < n) (hq : nth xs i = 34) :
    Calls Try.prog 24 #[.slice (some ⟨b, o, none⟩) n n, .int .i64 i] w fun e w' => e = .returned (.int .i64 (strEnd xs false (i + 1))) ∧ w' = w := by
  have hn := h.small
  have HQ : Hid (nth xs i = 34) := hq
  clear hq
  go_enter Try.func24, Try.ntmps24
  go_wp2
  go_loop [1] (fun k => ∃ m : Nat, 1 ≤ m ∧ m ≤ n ∧ k = .int .i64 m ∧ strEnd xs false (i + 1) = strEnd xs false m ∧ nth xs (m - 1) = 34) (fun k => n - (intOf k).toNat)
  case atStart => exact ⟨i + 1, by omega, by omega, by go_num, rfl, HQ.out⟩
  case round =>
    obtain ⟨m, hm1, hm, rfl, hs, hp⟩ := hrel
    have HS : Hid (strEnd xs false (i + 1) = strEnd xs false m) := hs
    have HP : Hid (nth xs (m - 1) = 34) := hp
    clear hs hp HQ
    by_cases hlt : m < n
    · rcases idx_at h m with ⟨hcall, hno⟩ | ⟨q, hcall, hqn, hquote, hno⟩
      · have HC := hid hcall
        clear hcall
        go_wp2_with (go_at_call 28; refine HC.out.mono ?_; rintro e w' ⟨rfl, rfl⟩)
        go_ret
        exact ⟨ret_int (by rw [HS.out, strEnd_noQuote xs false m (fun j h1 h2 => hno j h1 (by rw [h.len] at h2; exact h2))]), rfl⟩
      · have HC := hid hcall
        have HQU : Hid (nth xs (m + q) = 34) := hquote
        clear hcall hquote
        go_wp2_with (go_at_call 28; refine HC.out.mono ?_; rintro e w' ⟨rfl, rfl⟩)
        go_loop [6] (fun k => ∃ t : Nat, t ≤ q ∧ k = .int .i64 t ∧ ∀ j, m + q - t ≤ j → j < m + q → nth xs j = 92) (fun k => q - (intOf k).toNat)
        case atStart => exact ⟨0, Nat.zero_le _, rfl, fun j h1 h2 => by omega⟩
        case round =>
          obtain ⟨t, ht, rfl, hback⟩ := hrel
          have HB := hid hback
          clear hback
          have g := h.cell (m + q - 1 - t) (by omega)
          have hidx : (m : Int) + q - 1 - t = ((m + q - 1 - t : Nat) : Int) := by omega
          have hnext : (nth xs (m + q - 1 - t) == 92) = false → strEnd xs false m = if t % 2 = 0 then ((m + q : Nat) : Int) + 1 else strEnd xs false (m + q + 1) := fun hf =>
            strEnd_next xs m q t (by rw [h.len]; exact hqn) HQU.out hno ht HB.out (fun _ => beq_eq_false_iff_ne.1 hf)
          have HN := hid hnext
          clear hnext hno
          go_wp2
          · have h1 : (nth xs (m + q - 1 - t) == 92) = true := by assumption
            have htq : t < q := by
              rcases Nat.lt_or_ge t q with hl | hl
              · exact hl
              · have e : m + q - 1 - t = m - 1 := by omega
                have h2 := beq_iff_eq.1 h1
                rw [e, HP.out] at h2
                exact absurd h2 (by decide)
            go_round
            case rel =>
              refine ⟨t + 1, by omega, by go_num, fun j h2 h3 => ?_⟩
              by_cases e : j = m + q - 1 - t
              · rw [e]; exact beq_iff_eq.1 h1
              · exact HB.out j (by omega) h3
            case measure => simp [intOf]; omega
          · have h1 : (nth xs (m + q - 1 - t) == 92) = false := by assumption
            have h2 : ((t : Int) % 2 == 0) = true := by assumption
            go_ret
            exact ⟨ret_int (by rw [HS.out, HN.out h1, if_pos (by have := beq_iff_eq.1 h2; omega)]; omega), rfl⟩
          · have h1 : (nth xs (m + q - 1 - t) == 92) = false := by assumption
            have h2 : ((t : Int) % 2 == 0) = false := by assumption
            go_round
            case rel => exact ⟨m + q + 1, by omega, by omega, by go_num, by rw [HS.out, HN.out h1, if_neg (by have := beq_eq_false_iff_ne.1 h2; omega)], HQU.out⟩
            case measure => simp [intOf]; omega
    · have e : m = n := by omega
      subst e
      have HC := hid (idx_empty b o w)
      go_wp2_with (go_at_call 28; refine HC.out.mono ?_; rintro e w' ⟨rfl, rfl⟩)
      go_ret
      exact ⟨ret_int (by rw [HS.out, strEnd_out xs false m (by rw [h.len]; exact Nat.le_refl _)]), rfl⟩
end Go.Proofs.Qxb6603377a
