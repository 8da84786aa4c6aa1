/-
  THE WALK OF bracket (seat b6603377a).
-/
import Derived.Test.Qxb6603377aStr
namespace Go.Proofs.Qxb6603377a
open Go.RowKit Plain

theorem brk_at (xs : List Int) (m : Nat) (h : m < xs.length) (hb : opens (nth xs m) = true ∨ shuts (nth xs m) = true) : brk xs false false m = m := by
  have h34 : xs.getD m 0 ≠ 34 := by
    intro e
    have e' : nth xs m = 34 := e
    rw [e'] at hb
    exact absurd hb (by decide)
  rw [brk_step _ _ _ _ h]
  simp only [Bool.false_eq_true, if_false]
  rw [if_neg h34]
  exact if_pos hb
theorem brk_quote (xs : List Int) (m : Nat) (h : m < xs.length) (hb : nth xs m = 34) : brk xs false false m = if strEnd xs false (m + 1) < 0 then -1 else brk xs false false (strEnd xs false (m + 1)).toNat := by
  rw [brk_step _ _ _ _ h]
  simp only [Bool.false_eq_true, if_false]
  unfold nth at hb
  rw [if_pos hb, brk_str xs xs.length (m + 1) false (by omega)]
theorem brk_else (xs : List Int) (m : Nat) (h : m < xs.length) (h34 : nth xs m ≠ 34) (h1 : opens (nth xs m) = false) (h2 : shuts (nth xs m) = false) : brk xs false false m = brk xs false false (m + 1) := by
  rw [brk_step _ _ _ _ h]
  simp only [Bool.false_eq_true, if_false]
  unfold nth at h34 h1 h2
  rw [if_neg h34]
  exact if_neg (by intro hh; rcases hh with hh | hh; exact absurd (h1.symm.trans hh) (by decide); exact absurd (h2.symm.trans hh) (by decide))

theorem opens_ne {b : Int} (h1 : (b == 91) = false) (h2 : (b == 123) = false) : opens b = false := by
  have h1 := beq_eq_false_iff_ne.1 h1; have h2 := beq_eq_false_iff_ne.1 h2; simp [opens, h1, h2]
theorem shuts_ne {b : Int} (h1 : (b == 93) = false) (h2 : (b == 125) = false) : shuts b = false := by
  have h1 := beq_eq_false_iff_ne.1 h1; have h2 := beq_eq_false_iff_ne.1 h2; simp [shuts, h1, h2]
theorem brack {b : Int} (h : (b == 91) = true ∨ (b == 93) = true ∨ (b == 123) = true ∨ (b == 125) = true) : opens b = true ∨ shuts b = true := by
  simp only [beq_iff_eq] at h
  rw [opens_or, shuts_or]
  omega

set_option maxHeartbeats 1000000 in
theorem brk_any (b o n : Nat) (xs : List Int) (i : Nat) (w : World) (h : Holds w b o n xs) (hi : i ≤ n) :
    Calls Try.prog 29 #[.slice (some ⟨b, o, none⟩) n n, .int .i64 i] w fun e w' => e = .returned (.int .i64 (brk xs false false i)) ∧ w' = w := by
  have hn := h.small
  go_enter Try.func29, Try.ntmps29
  go_wp2
  go_loop [1] (fun k => ∃ m : Nat, m ≤ n ∧ k = .int .i64 m ∧ brk xs false false i = brk xs false false m) (fun k => n - (intOf k).toNat)
  case atStart => exact ⟨i, hi, rfl, rfl⟩
  case round =>
    obtain ⟨m, hm, rfl, hs⟩ := hrel
    have HS := hid hs
    clear hs
    by_cases hlt : m < n
    · have g := h.cell m hlt
      have hlx : m < xs.length := by rw [h.len]; exact hlt
      by_cases hq : nth xs m = 34
      · have hcall := str_any b o n xs m w h hlt hq
        have hbq := brk_quote xs m hlx hq
        rcases strEnd_ge xs false (m + 1) with he | ⟨he1, he2⟩
        · rw [he] at hcall hbq
          have HC := hid hcall
          have HQ := hid hbq
          clear hcall hbq he
          go_wp2_with (go_at_call 24; refine HC.out.mono ?_; rintro e w' ⟨rfl, rfl⟩)
          go_ret
          exact ⟨ret_int (by rw [HS.out, HQ.out]; rfl), rfl⟩
        · rw [h.len] at he2
          obtain ⟨p, hp⟩ : ∃ p : Nat, strEnd xs false (m + 1) = p := ⟨(strEnd xs false (m + 1)).toNat, by omega⟩
          rw [hp] at hcall hbq he1 he2
          have HC := hid hcall
          have HQ := hid hbq
          clear hcall hbq hp
          go_wp2_with (go_at_call 24; refine HC.out.mono ?_; rintro e w' ⟨rfl, rfl⟩)
          go_round
          case rel => exact ⟨p, by omega, rfl, by rw [HS.out, HQ.out, if_neg (by omega), Int.toNat_natCast]⟩
          case measure => simp [intOf]; omega
      · have hq' : (nth xs m == 34) = false := beq_eq_false_iff_ne.2 hq
        have HQ := hid hq
        clear hq
        have hat : ((nth xs m == 91) = true ∨ (nth xs m == 93) = true ∨ (nth xs m == 123) = true ∨ (nth xs m == 125) = true) → brk xs false false i = m := fun hh => by rw [HS.out]; exact brk_at xs m hlx (brack hh)
        have HA := hid hat
        clear hat
        go_wp2_with fail
        · have h1 : (nth xs m == 91) = true := by assumption
          go_ret
          exact ⟨ret_int (HA.out (.inl h1)).symm, rfl⟩
        · have h1 : (nth xs m == 93) = true := by assumption
          go_ret
          exact ⟨ret_int (HA.out (.inr (.inl h1))).symm, rfl⟩
        · have h1 : (nth xs m == 123) = true := by assumption
          go_ret
          exact ⟨ret_int (HA.out (.inr (.inr (.inl h1)))).symm, rfl⟩
        · have h1 : (nth xs m == 125) = true := by assumption
          go_ret
          exact ⟨ret_int (HA.out (.inr (.inr (.inr h1)))).symm, rfl⟩
        · have h1 : (nth xs m == 91) = false := by assumption
          have h2 : (nth xs m == 93) = false := by assumption
          have h3 : (nth xs m == 123) = false := by assumption
          have h4 : (nth xs m == 125) = false := by assumption
          go_round
          case rel => exact ⟨m + 1, by omega, by go_num, by rw [HS.out, brk_else xs m hlx HQ.out (opens_ne h1 h3) (shuts_ne h2 h4)]⟩
          case measure => simp [intOf]; omega
    · go_wp2
      go_ret
      exact ⟨ret_int (by rw [HS.out, brk_out _ _ _ _ (by rw [h.len]; omega)]), rfl⟩
end Go.Proofs.Qxb6603377a
