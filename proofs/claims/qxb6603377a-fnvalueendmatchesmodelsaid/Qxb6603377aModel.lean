/-
  THE WALK OF b1ModelValueEnd (seat b6603377a).
-/
import Derived.Test.Qxb6603377aVal
namespace Go.Proofs.Qxb6603377a
open Go.RowKit Plain

set_option maxHeartbeats 400000 in
/-- b1IsDelim. -/
theorem delim_any (x : Int) (w : World) : Calls Try.prog 26 #[.int .u8 x] w fun e w' => e = .returned (.bool (delim x)) ∧ w' = w := by
  by_cases h1 : x = 44
  · subst h1; go_enter Try.func26, Try.ntmps26; go_wp2; go_ret; exact ⟨rfl, rfl⟩
  by_cases h2 : x = 93
  · subst h2; go_enter Try.func26, Try.ntmps26; go_wp2; go_ret; exact ⟨rfl, rfl⟩
  by_cases h3 : x = 125
  · subst h3; go_enter Try.func26, Try.ntmps26; go_wp2; go_ret; exact ⟨rfl, rfl⟩
  by_cases h4 : x = 32
  · subst h4; go_enter Try.func26, Try.ntmps26; go_wp2; go_ret; exact ⟨rfl, rfl⟩
  by_cases h5 : x = 9
  · subst h5; go_enter Try.func26, Try.ntmps26; go_wp2; go_ret; exact ⟨rfl, rfl⟩
  by_cases h6 : x = 10
  · subst h6; go_enter Try.func26, Try.ntmps26; go_wp2; go_ret; exact ⟨rfl, rfl⟩
  by_cases h7 : x = 13
  · subst h7; go_enter Try.func26, Try.ntmps26; go_wp2; go_ret; exact ⟨rfl, rfl⟩
  have hd : delim x = false := by simp [delim, *]
  rw [hd]
  have g1 : (x == 44) = false := beq_eq_false_iff_ne.2 h1
  have g2 : (x == 93) = false := beq_eq_false_iff_ne.2 h2
  have g3 : (x == 125) = false := beq_eq_false_iff_ne.2 h3
  have g4 : (x == 32) = false := beq_eq_false_iff_ne.2 h4
  have g5 : (x == 9) = false := beq_eq_false_iff_ne.2 h5
  have g6 : (x == 10) = false := beq_eq_false_iff_ne.2 h6
  have g7 : (x == 13) = false := beq_eq_false_iff_ne.2 h7
  clear h1 h2 h3 h4 h5 h6 h7 hd
  go_enter Try.func26, Try.ntmps26; go_wp2; go_ret; exact ⟨rfl, rfl⟩

set_option maxHeartbeats 1000000 in
/-- A scalar. -/
theorem model_any_scalar (b o n : Nat) (xs : List Int) (i : Nat) (w : World) (h : Holds w b o n xs) (hi : i < n) (h1 : (nth xs i == 34) = false) (h2 : (nth xs i == 91) = false) (h3 : (nth xs i == 123) = false) :
    Calls Try.prog 17 #[.slice (some ⟨b, o, none⟩) n n, .int .i64 i] w fun e w' => e = .returned (.int .i64 (sca xs i)) ∧ w' = w := by
  have hn := h.small
  have g := h.cell i hi
  have h1' : (nth xs i != 34) = true := by simpa using h1
  have h2' : (nth xs i != 91) = true := by simpa using h2
  have h3' : (nth xs i != 123) = true := by simpa using h3
  clear h1 h2 h3
  go_enter Try.func17, Try.ntmps17
  go_wp2_with fail
  clear g h1' h2' h3'
  go_loop [6] (fun k => ∃ m : Nat, m ≤ n ∧ k = .int .i64 m ∧ sca xs i = sca xs m) (fun k => n - (intOf k).toNat)
  case atStart => exact ⟨i, by omega, rfl, rfl⟩
  case round =>
    obtain ⟨m, hm, rfl, hs⟩ := hrel
    have HS := hid hs
    clear hs
    by_cases hlt : m < n
    · have g := h.cell m hlt
      have hlx : m < xs.length := by rw [h.len]; exact hlt
      have HH := hid (fun hd : delim (nth xs m) = true => HS.out.trans (sca_hit xs m hlx hd))
      have HM := hid (fun hd : delim (nth xs m) = false => HS.out.trans (sca_miss xs m hlx hd))
      have HC := hid (delim_any (nth xs m) w)
      by_cases hd : delim (nth xs m) = true
      · go_wp2_with (go_at_call 26; refine HC.out.mono ?_; rintro e w' ⟨rfl, rfl⟩)
        go_ret
        exact ⟨ret_int (HH.out hd).symm, rfl⟩
      · have hd' : delim (nth xs m) = false := by simpa using hd
        clear hd
        go_wp2_with (go_at_call 26; refine HC.out.mono ?_; rintro e w' ⟨rfl, rfl⟩)
        go_round
        case rel => exact ⟨m + 1, by omega, by go_num, HM.out hd'⟩
        case measure => simp [intOf]; omega
    · go_wp2
      go_ret
      have e : m = n := by omega
      subst e
      exact ⟨ret_int (by rw [HS.out, sca_out _ _ h.len]), rfl⟩

/-! ### the one pass, byte by byte -/
section
variable {xs : List Int} {d : Int} {m : Nat}
theorem v_esc (h : m < xs.length) : val xs d true true m = val xs d true false (m + 1) := by rw [val_step _ _ _ _ _ h]; simp
theorem v_bs (h : m < xs.length) (hb : nth xs m = 92) : val xs d true false m = val xs d true true (m + 1) := by unfold nth at hb; rw [val_step _ _ _ _ _ h]; simp only [hb]; simp
theorem v_end (h : m < xs.length) (hb : nth xs m = 34) : val xs 0 true false m = (m : Int) + 1 := by unfold nth at hb; rw [val_step _ _ _ _ _ h]; simp only [hb]; simp
theorem v_close (h : m < xs.length) (hb : nth xs m = 34) (hd : d ≠ 0) : val xs d true false m = val xs d false false (m + 1) := by unfold nth at hb; rw [val_step _ _ _ _ _ h]; simp only [hb]; simp [hd]
theorem v_in (h : m < xs.length) (h1 : nth xs m ≠ 92) (h2 : nth xs m ≠ 34) : val xs d true false m = val xs d true false (m + 1) := by
  unfold nth at h1 h2; rw [val_step _ _ _ _ _ h]; rw [if_pos rfl, if_neg (by decide), if_neg h1, if_neg h2]
theorem v_q (h : m < xs.length) (e : Bool) (hb : nth xs m = 34) : val xs d false e m = val xs d true e (m + 1) := by unfold nth at hb; rw [val_step _ _ _ _ _ h]; simp only [hb]; simp
theorem v_op (h : m < xs.length) (e : Bool) (hb : opens (nth xs m) = true) : val xs d false e m = val xs (d + 1) false e (m + 1) := by
  have h34 : nth xs m ≠ 34 := by intro e; rw [e] at hb; exact absurd hb (by decide)
  unfold nth at hb h34; rw [val_step _ _ _ _ _ h, if_neg (by decide), if_neg h34, if_pos hb]
theorem v_sh0 (h : m < xs.length) (e : Bool) (h1 : opens (nth xs m) = false) (hb : shuts (nth xs m) = true) (hd : d - 1 = 0) : val xs d false e m = (m : Int) + 1 := by
  have h34 : nth xs m ≠ 34 := by intro e; rw [e] at hb; exact absurd hb (by decide)
  unfold nth at hb h34 h1; rw [val_step _ _ _ _ _ h, if_neg (by decide), if_neg h34, if_neg (by rw [h1]; decide), if_pos hb, if_pos hd]
theorem v_sh (h : m < xs.length) (e : Bool) (h1 : opens (nth xs m) = false) (hb : shuts (nth xs m) = true) (hd : d - 1 ≠ 0) : val xs d false e m = val xs (d - 1) false e (m + 1) := by
  have h34 : nth xs m ≠ 34 := by intro e; rw [e] at hb; exact absurd hb (by decide)
  unfold nth at hb h34 h1; rw [val_step _ _ _ _ _ h, if_neg (by decide), if_neg h34, if_neg (by rw [h1]; decide), if_pos hb, if_neg hd]
theorem v_no (h : m < xs.length) (e : Bool) (h34 : nth xs m ≠ 34) (h1 : opens (nth xs m) = false) (h2 : shuts (nth xs m) = false) : val xs d false e m = val xs d false e (m + 1) := by
  unfold nth at h34 h1 h2; rw [val_step _ _ _ _ _ h, if_neg (by decide), if_neg h34, if_neg (by rw [h1]; decide), if_neg (by rw [h2]; decide)]
end

set_option maxHeartbeats 2000000 in
/-- A string, an array or an object. -/
theorem model_any (b o n : Nat) (xs : List Int) (i : Nat) (w : World) (h : Holds w b o n xs) (hi : i < n) (hb : nth xs i = 34 ∨ nth xs i = 91 ∨ nth xs i = 123) :
    Calls Try.prog 17 #[.slice (some ⟨b, o, none⟩) n n, .int .i64 i] w fun e w' => e = .returned (.int .i64 (val xs 0 false false i)) ∧ w' = w := by
  have hn := h.small
  have g := h.cell i hi
  rcases hb with hb | hb | hb
  all_goals
    rw [hb] at g
    clear hb
    go_enter Try.func17, Try.ntmps17
    go_wp2_with fail
    clear g
    go_loop [7, 8, 9, 10] (fun u v x k => ∃ (d : Int) (s e : Bool) (m : Nat), u = .int .i64 d ∧ v = .bool s ∧ x = .bool e ∧ k = .int .i64 m ∧ m ≤ n ∧ -(m : Int) ≤ d ∧ d ≤ m ∧ val xs 0 false false i = val xs d s e m) (fun _ _ _ k => n - (intOf k).toNat)
    case atStart => exact ⟨0, false, false, i, rfl, rfl, rfl, rfl, by omega, by omega, by omega, rfl⟩
    case round =>
      obtain ⟨d, s, e, m, rfl, rfl, rfl, rfl, hm, hd1, hd2, hs⟩ := hrel
      have HS := hid hs
      clear hs
      by_cases hlt : m < n
      · have g := h.cell m hlt
        have hlx : m < xs.length := by rw [h.len]; exact hlt
        cases s
        · by_cases b1 : nth xs m = 34
          · have hv := HS.out.trans (v_q hlx e b1)
            rw [b1] at g
            have HV := hid hv
            clear b1 hv
            go_wp2_with fail
            go_round
            case rel => exact ⟨d, true, e, m + 1, rfl, rfl, rfl, by go_num, by omega, by omega, by omega, HV.out⟩
            case measure => simp [intOf]; omega
          by_cases b2 : nth xs m = 91
          · have hv := HS.out.trans (v_op hlx e (opens_or.2 (.inl b2)))
            rw [b2] at g
            have HV := hid hv
            clear b1 b2 hv
            go_wp2_with fail
            go_round
            case rel => exact ⟨d + 1, false, e, m + 1, rfl, rfl, rfl, by go_num, by omega, by omega, by omega, HV.out⟩
            case measure => simp [intOf]; omega
          by_cases b3 : nth xs m = 123
          · have hv := HS.out.trans (v_op hlx e (opens_or.2 (.inr b3)))
            rw [b3] at g
            have HV := hid hv
            clear b1 b2 b3 hv
            go_wp2_with fail
            go_round
            case rel => exact ⟨d + 1, false, e, m + 1, rfl, rfl, rfl, by go_num, by omega, by omega, by omega, HV.out⟩
            case measure => simp [intOf]; omega
          have ho : opens (nth xs m) = false := opens_ne (beq_eq_false_iff_ne.2 b2) (beq_eq_false_iff_ne.2 b3)
          by_cases b4 : nth xs m = 93
          · by_cases hd : d - 1 = 0
            · have hv := HS.out.trans (v_sh0 hlx e ho (shuts_or.2 (.inl b4)) hd)
              obtain rfl : d = 1 := by omega
              rw [b4] at g
              have HV := hid hv
              clear b1 b2 b3 b4 hv hd ho
              go_wp2_with fail
              go_ret
              exact ⟨ret_int HV.out.symm, rfl⟩
            · have hv := HS.out.trans (v_sh hlx e ho (shuts_or.2 (.inl b4)) hd)
              have hd' : (d - 1 == 0) = false := beq_eq_false_iff_ne.2 hd
              rw [b4] at g
              have HV := hid hv
              clear b1 b2 b3 b4 hv hd ho
              go_wp2_with fail
              go_round
              case rel => exact ⟨d - 1, false, e, m + 1, rfl, rfl, rfl, by go_num, by omega, by omega, by omega, HV.out⟩
              case measure => simp [intOf]; omega
          by_cases b5 : nth xs m = 125
          · by_cases hd : d - 1 = 0
            · have hv := HS.out.trans (v_sh0 hlx e ho (shuts_or.2 (.inr b5)) hd)
              obtain rfl : d = 1 := by omega
              rw [b5] at g
              have HV := hid hv
              clear b1 b2 b3 b4 b5 hv hd ho
              go_wp2_with fail
              go_ret
              exact ⟨ret_int HV.out.symm, rfl⟩
            · have hv := HS.out.trans (v_sh hlx e ho (shuts_or.2 (.inr b5)) hd)
              have hd' : (d - 1 == 0) = false := beq_eq_false_iff_ne.2 hd
              rw [b5] at g
              have HV := hid hv
              clear b1 b2 b3 b4 b5 hv hd ho
              go_wp2_with fail
              go_round
              case rel => exact ⟨d - 1, false, e, m + 1, rfl, rfl, rfl, by go_num, by omega, by omega, by omega, HV.out⟩
              case measure => simp [intOf]; omega
          have hv := HS.out.trans (v_no hlx e b1 ho (shuts_ne (beq_eq_false_iff_ne.2 b4) (beq_eq_false_iff_ne.2 b5)))
          have c1 : (nth xs m == 34) = false := beq_eq_false_iff_ne.2 b1
          have c2 : (nth xs m == 91) = false := beq_eq_false_iff_ne.2 b2
          have c3 : (nth xs m == 123) = false := beq_eq_false_iff_ne.2 b3
          have c4 : (nth xs m == 93) = false := beq_eq_false_iff_ne.2 b4
          have c5 : (nth xs m == 125) = false := beq_eq_false_iff_ne.2 b5
          have HV := hid hv
          clear b1 b2 b3 b4 b5 hv ho
          go_wp2_with fail
          go_round
          case rel => exact ⟨d, false, e, m + 1, rfl, rfl, rfl, by go_num, by omega, by omega, by omega, HV.out⟩
          case measure => simp [intOf]; omega
        · cases e
          · by_cases b1 : nth xs m = 92
            · have hv := HS.out.trans (v_bs hlx b1)
              rw [b1] at g
              have HV := hid hv
              clear b1 hv
              go_wp2_with fail
              go_round
              case rel => exact ⟨d, true, true, m + 1, rfl, rfl, rfl, by go_num, by omega, by omega, by omega, HV.out⟩
              case measure => simp [intOf]; omega
            by_cases b2 : nth xs m = 34
            · by_cases hd : d = 0
              · subst hd
                have hv := HS.out.trans (v_end hlx b2)
                rw [b2] at g
                have HV := hid hv
                clear b1 b2 hv
                go_wp2_with fail
                go_ret
                exact ⟨ret_int HV.out.symm, rfl⟩
              · have hv := HS.out.trans (v_close hlx b2 hd)
                have hd' : (d == 0) = false := beq_eq_false_iff_ne.2 hd
                rw [b2] at g
                have HV := hid hv
                clear b1 b2 hv hd
                go_wp2_with fail
                go_round
                case rel => exact ⟨d, false, false, m + 1, rfl, rfl, rfl, by go_num, by omega, by omega, by omega, HV.out⟩
                case measure => simp [intOf]; omega
            have hv := HS.out.trans (v_in hlx b1 b2)
            have c1 : (nth xs m == 92) = false := beq_eq_false_iff_ne.2 b1
            have c2 : (nth xs m == 34) = false := beq_eq_false_iff_ne.2 b2
            have HV := hid hv
            clear b1 b2 hv
            go_wp2_with fail
            go_round
            case rel => exact ⟨d, true, false, m + 1, rfl, rfl, rfl, by go_num, by omega, by omega, by omega, HV.out⟩
            case measure => simp [intOf]; omega
          · have hv := HS.out.trans (v_esc hlx)
            have HV := hid hv
            clear hv
            go_wp2_with fail
            go_round
            case rel => exact ⟨d, true, false, m + 1, rfl, rfl, rfl, by go_num, by omega, by omega, by omega, HV.out⟩
            case measure => simp [intOf]; omega
      · go_wp2_with fail
        go_ret
        exact ⟨ret_int (by rw [HS.out, val_out _ _ _ _ _ (by rw [h.len]; omega)]), rfl⟩
end Go.Proofs.Qxb6603377a
