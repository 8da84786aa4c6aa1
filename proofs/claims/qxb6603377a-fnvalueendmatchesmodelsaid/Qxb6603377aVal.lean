/-
  THE WALK OF valueEnd (seat b6603377a).
-/
import Derived.Test.Qxb6603377aBrk
namespace Go.Proofs.Qxb6603377a
open Go.RowKit Plain

/-- How much of the row is left behind an index; nothing behind -1. -/
def left (n : Nat) (v : Value) : Nat := if intOf v < 0 then 0 else n - (intOf v).toNat
theorem left_int (n : Nat) (k : IntKind) (j : Int) : left n (.int k j) = if j < 0 then 0 else n - j.toNat := rfl

set_option maxHeartbeats 400000 in
/-- A quote. -/
theorem val_any_quote (b o n : Nat) (xs : List Int) (i : Nat) (w : World) (h : Holds w b o n xs) (hi : i < n) (hq : nth xs i = 34) :
    Calls Try.prog 25 #[.slice (some ⟨b, o, none⟩) n n, .int .i64 i] w fun e w' => e = .returned (.int .i64 (strEnd xs false (i + 1))) ∧ w' = w := by
  have hn := h.small
  have HC := hid (str_any b o n xs i w h hi hq)
  have g := h.cell i hi
  rw [hq] at g
  clear hq
  go_enter Try.func25, Try.ntmps25
  go_wp2_with (go_at_call 24; refine HC.out.mono ?_; rintro e w' ⟨rfl, rfl⟩)
  go_ret
  exact ⟨rfl, rfl⟩

theorem delim_ne {x : Int} (h1 : (x == 44) = false) (h2 : (x == 93) = false) (h3 : (x == 125) = false) (h4 : (x == 32) = false) (h5 : (x == 9) = false) (h6 : (x == 10) = false) (h7 : (x == 13) = false) : delim x = false := by
  simp only [beq_eq_false_iff_ne] at *
  simp [delim, *]
theorem delim_is {x : Int} (h : (x == 44) = true ∨ (x == 93) = true ∨ (x == 125) = true ∨ (x == 32) = true ∨ (x == 9) = true ∨ (x == 10) = true ∨ (x == 13) = true) : delim x = true := by
  simp only [beq_iff_eq] at h
  simp only [delim, Bool.or_eq_true, decide_eq_true_eq]
  omega

set_option maxHeartbeats 1000000 in
/-- A scalar. -/
theorem val_any_scalar (b o n : Nat) (xs : List Int) (i : Nat) (w : World) (h : Holds w b o n xs) (hi : i < n) (h1 : (nth xs i == 34) = false) (h2 : (nth xs i == 91) = false) (h3 : (nth xs i == 123) = false) :
    Calls Try.prog 25 #[.slice (some ⟨b, o, none⟩) n n, .int .i64 i] w fun e w' => e = .returned (.int .i64 (sca xs i)) ∧ w' = w := by
  have hn := h.small
  have g := h.cell i hi
  go_enter Try.func25, Try.ntmps25
  go_wp2_with fail
  clear g h1 h2 h3
  go_loop [1] (fun k => ∃ m : Nat, m ≤ n ∧ k = .int .i64 m ∧ sca xs i = sca xs m) (fun k => n - (intOf k).toNat)
  case atStart => exact ⟨i, by omega, rfl, rfl⟩
  case round =>
    obtain ⟨m, hm, rfl, hs⟩ := hrel
    have HS := hid hs
    clear hs
    by_cases hlt : m < n
    · have g := h.cell m hlt
      have hlx : m < xs.length := by rw [h.len]; exact hlt
      have HH := hid (fun hd : delim (nth xs m) = true => HS.out.trans (sca_hit xs m hlx hd))
      have HM := hid (fun hd : delim (nth xs m) = false => HS.out.trans (sca_miss xs m hlx hd))
      go_wp2_with fail
      case roundEnd =>
        go_round
        case rel => exact ⟨m + 1, by omega, by go_num, HM.out (delim_ne (by assumption) (by assumption) (by assumption) (by assumption) (by assumption) (by assumption) (by assumption))⟩
        case measure => simp [intOf]; omega
      all_goals
        have hd : delim (nth xs m) = true := delim_is (by first | exact .inl (by assumption) | exact .inr (.inl (by assumption)) | exact .inr (.inr (.inl (by assumption))) | exact .inr (.inr (.inr (.inl (by assumption)))) | exact .inr (.inr (.inr (.inr (.inl (by assumption))))) | exact .inr (.inr (.inr (.inr (.inr (.inl (by assumption)))))) | exact .inr (.inr (.inr (.inr (.inr (.inr (by assumption)))))))
        go_ret
        exact ⟨ret_int (HH.out hd).symm, rfl⟩
    · go_wp2
      go_ret
      have e : m = n := by omega
      subst e
      exact ⟨ret_int (by rw [HS.out, sca_out _ _ h.len]), rfl⟩

theorem onward_open {xs : List Int} {d : Int} {j : Nat} (hd : 0 ≤ d) (hb : opens (nth xs j) = true) : onward xs d j = onward xs (d + 1) (brk xs false false (j + 1)) := by
  have e : onward xs d j = val xs (d + 1) false false (j + 1) := by
    unfold onward
    rw [if_neg (show ¬ (j : Int) < 0 by omega), Int.toNat_natCast]
    exact if_pos hb
  rw [e, val_brk xs (d + 1) (by omega) xs.length (j + 1) (by omega)]
theorem onward_last {xs : List Int} {j : Nat} (hb : opens (nth xs j) = false) : onward xs 1 j = (j : Int) + 1 := by
  unfold onward
  rw [if_neg (show ¬ (j : Int) < 0 by omega), Int.toNat_natCast, if_neg (by have e : opens (xs.getD j 0) = false := hb; rw [e]; decide), if_pos (by decide)]
theorem onward_shut {xs : List Int} {d : Int} {j : Nat} (hd : 2 ≤ d) (hb : opens (nth xs j) = false) : onward xs d j = onward xs (d - 1) (brk xs false false (j + 1)) := by
  have e : onward xs d j = val xs (d - 1) false false (j + 1) := by
    unfold onward
    rw [if_neg (show ¬ (j : Int) < 0 by omega), Int.toNat_natCast, if_neg (by have e : opens (xs.getD j 0) = false := hb; rw [e]; decide), if_neg (by omega)]
  rw [e, val_brk xs (d - 1) (by omega) xs.length (j + 1) (by omega)]

/-- What holds at the head of valueEnd's loop over brackets: the next bracket is at j (or j is -1), the depth is d. -/
def AtBrk (n : Nat) (xs : List Int) (T d j : Int) : Prop :=
  T = onward xs d j ∧ 0 ≤ d ∧ d ≤ n ∧ (j = -1 ∨ (d ≤ j ∧ j < n ∧ (d = 0 → opens (nth xs j.toNat) = true)))

/-- The next head. -/
theorem atBrk_next {n : Nat} {xs : List Int} {T d' : Int} {j : Nat} (hx : xs.length = n) (hT : T = onward xs d' (brk xs false false (j + 1))) (h0 : 1 ≤ d') (hj : d' ≤ (j : Int) + 1) (hn : j < n) :
    AtBrk n xs T d' (brk xs false false (j + 1)) ∧ left n (.int .i64 (brk xs false false (j + 1))) < left n (.int .i64 (j : Int)) := by
  rcases brk_ge xs xs.length (j + 1) false false (by omega) with h | ⟨h1, h2, h3⟩
  · refine ⟨⟨hT, by omega, by omega, .inl h⟩, ?_⟩
    rw [left_int, left_int, if_pos (by omega), if_neg (by omega)]
    omega
  · refine ⟨⟨hT, by omega, by omega, .inr ⟨by omega, by omega, fun e => by omega⟩⟩, ?_⟩
    rw [left_int, left_int, if_neg (by omega), if_neg (by omega)]
    omega

set_option maxHeartbeats 1000000 in
/-- An array or an object. -/
theorem val_any_open (b o n : Nat) (xs : List Int) (i : Nat) (w : World) (h : Holds w b o n xs) (hi : i < n) (hb : opens (nth xs i) = true) :
    Calls Try.prog 25 #[.slice (some ⟨b, o, none⟩) n n, .int .i64 i] w fun e w' => e = .returned (.int .i64 (val xs 1 false false (i + 1))) ∧ w' = w := by
  have hn := h.small
  have g := h.cell i hi
  have hlx : i < xs.length := by rw [h.len]; exact hi
  have h34 : (nth xs i == 34) = false := by
    rw [beq_eq_false_iff_ne]; intro e; rw [e] at hb; exact absurd hb (by decide)
  have hcall := brk_any b o n xs i w h (by omega)
  rw [brk_at xs i hlx (.inl hb)] at hcall
  have HC := hid hcall
  have hstart : AtBrk n xs (val xs 1 false false (i + 1)) 0 i := by
    refine ⟨?_, by omega, by omega, .inr ⟨by omega, by omega, fun _ => by rw [Int.toNat_natCast]; exact hb⟩⟩
    rw [onward_open (by omega) hb, val_brk xs 1 (by omega) xs.length (i + 1) (by omega)]
    rfl
  have HST := hid hstart
  have HO : Hid (opens (nth xs i) = true) := hb
  clear hcall hstart hb hlx
  rcases Bool.eq_false_or_eq_true (nth xs i == 91) with h91 | h91
  all_goals
    have HO' : (nth xs i == 91) = false → (nth xs i == 123) = true := by
      intro hf
      have := HO.out
      rw [opens_or] at this
      rcases this with e | e
      · exact absurd e (beq_eq_false_iff_ne.1 hf)
      · exact beq_iff_eq.2 e
    try have h123 : (nth xs i == 123) = true := HO' h91
    clear HO'
    go_enter Try.func25, Try.ntmps25
    go_wp2_with (go_at_call 29; refine HC.out.mono ?_; rintro e w' ⟨rfl, rfl⟩)
    clear g h34 h91 HC
    go_loop [1, 5] (fun u v => ∃ d j : Int, u = .int .i64 j ∧ v = .int .i64 d ∧ AtBrk n xs (val xs 1 false false (i + 1)) d j) (fun u _ => left n u)
    case atStart => exact ⟨0, i, rfl, rfl, HST.out⟩
    case round =>
      obtain ⟨d, j, rfl, rfl, hT, hd0, hdn, hj⟩ := hrel
      have HT := hid hT
      clear hT HST HO
      by_cases hneg : j < 0
      · clear hj
        go_wp2_with fail
        go_ret
        exact ⟨ret_int (by rw [HT.out]; unfold onward; rw [if_pos hneg]), rfl⟩
      · obtain ⟨j, rfl⟩ : ∃ q : Nat, j = q := ⟨j.toNat, by omega⟩
        rcases hj with hj | ⟨hdj, hjn, hop⟩
        · omega
        rw [Int.toNat_natCast] at hop
        have hjn' : j < n := by omega
        have g := h.cell j hjn'
        have hcall := brk_any b o n xs (j + 1) w' h (by omega)
        rw [show ((j + 1 : Nat) : Int) = (j : Int) + 1 from by omega] at hcall
        have HC := hid hcall
        have HP := hid hop
        clear hcall hop
        have HOP := hid (fun (hb : opens (nth xs j) = true) => atBrk_next h.len (HT.out.trans (onward_open hd0 hb)) (by omega) (by omega) hjn')
        by_cases h1 : (nth xs j == 91) = true
        · go_wp2_with (go_at_call 29; refine HC.out.mono ?_; rintro e w' ⟨rfl, rfl⟩)
          have hX := HOP.out (opens_or.2 (.inl (beq_iff_eq.1 h1)))
          go_round
          case rel => exact ⟨d + 1, _, rfl, rfl, hX.1⟩
          case measure => exact hX.2
        · have h1' : (nth xs j == 91) = false := by simpa using h1
          clear h1
          by_cases h2 : (nth xs j == 123) = true
          · go_wp2_with (go_at_call 29; refine HC.out.mono ?_; rintro e w' ⟨rfl, rfl⟩)
            have hX := HOP.out (opens_or.2 (.inr (beq_iff_eq.1 h2)))
            go_round
            case rel => exact ⟨d + 1, _, rfl, rfl, hX.1⟩
            case measure => exact hX.2
          · have h2' : (nth xs j == 123) = false := by simpa using h2
            clear h2
            have hno : opens (nth xs j) = false := opens_ne h1' h2'
            have hd1 : 1 ≤ d := by
              rcases (show d < 1 ∨ 1 ≤ d by omega) with hl | hl
              · have := HP.out (by omega)
                rw [hno] at this
                exact absurd this (by decide)
              · exact hl
            have HN := hid hno
            clear hno HOP HP
            by_cases hd : d = 1
            · subst hd
              go_wp2_with fail
              go_ret
              exact ⟨ret_int (by rw [HT.out, onward_last HN.out]), rfl⟩
            · have hd2 : 2 ≤ d := by omega
              have hX := atBrk_next h.len (HT.out.trans (onward_shut hd2 HN.out)) (by omega) (by omega) hjn'
              have HX := hid hX
              clear hX
              go_wp2_with (go_at_call 29; refine HC.out.mono ?_; rintro e w' ⟨rfl, rfl⟩)
              go_round
              case rel => exact ⟨d - 1, _, rfl, rfl, HX.out.1⟩
              case measure => exact HX.out.2
end Go.Proofs.Qxb6603377a
