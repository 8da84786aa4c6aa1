/-
  THE WALK OF zzContinuationModel (seat b6603404a).
-/
import Derived.Test.Qxb6603404aZZ
import Derived.Deep.CutBlock
import Derived.Deep.DeepCutAuto
namespace Go.Proofs.Qxb6603404a
open Go.RowKit Plain
set_option linter.unusedVariables false

set_option maxHeartbeats 1000000 in
set_option maxRecDepth 100000 in
/-- pos stands at no break. -/
theorem model_no (s : ByteArray) (pos line ls parent : Int) (flow : Bool) (w : World) (hs : s.size ≤ 1048576) (h0 : 0 ≤ pos) (hno : ¬ (pos < s.size ∧ bt s pos.toNat = 10)) :
    Calls Try.prog 18 #[.string s, .int .i64 pos, .int .i64 line, .int .i64 ls, .int .i64 parent, .bool flow] w fun e w' => e = .returned (outT none pos line ls) ∧ w' = w := by
  by_cases hlt : pos < s.size
  · obtain ⟨p, rfl⟩ : ∃ p : Nat, pos = p := ⟨pos.toNat, by omega⟩
    have g := bt_eq s p (by omega)
    have hb : (bt s p != 10) = true := by
      have : ¬ bt s p = 10 := fun e => hno ⟨hlt, by rw [Int.toNat_natCast]; exact e⟩
      simpa using this
    clear hno
    go_enter Try.func18, Try.ntmps18
    go_wp2_with fail
    exact bodyPost_ret (v := .tuple #[.int .i64 (p : Int), .int .i64 line, .int .i64 ls, .int .i64 0, .bool false]) (by simp [results, Try.results18, go_sem]) rfl ⟨rfl, rfl⟩
  · clear hno
    go_enter Try.func18, Try.ntmps18
    go_wp2_with fail
    exact bodyPost_ret (v := .tuple #[.int .i64 pos, .int .i64 line, .int .i64 ls, .int .i64 0, .bool false]) (by simp [results, Try.results18, go_sem]) rfl ⟨rfl, rfl⟩

theorem wrap_two (a b : Int) : wrap64 (wrap64 (a + b) + 1) = wrap64 (a + (b + 1)) := by unfold wrap64; omega
theorem model_out (pos line ls : Int) (j st b : Nat) : Ending.returned (.tuple #[.int .i64 (j : Int), .int .i64 (wrap64 (wrap64 (line + (b : Int)) + 1)), .int .i64 (st : Int), .int .i64 (b : Int), .bool true]) = .returned (outT (some (j, st, b)) pos line ls) := by
  rw [wrap_two]; rfl

set_option maxHeartbeats 4000000 in
set_option maxRecDepth 100000 in
theorem model_yes (s : ByteArray) (pos : Nat) (line ls parent : Int) (flow : Bool) (w : World) (hs : s.size ≤ 1048576) (hpos : pos < s.size) (hb : bt s pos = 10)
    (R : Option (Nat × Nat × Nat)) (hR : R = scan (bt s) s.size (judge s parent flow) (pos + 1) 0 (pos + 1)) :
    Calls Try.prog 18 #[.string s, .int .i64 pos, .int .i64 line, .int .i64 ls, .int .i64 parent, .bool flow] w fun e w' => e = .returned (outT R pos line ls) ∧ w' = w := by
  have HR := hid hR
  have g := bt_eq s pos hpos
  rw [hb] at g
  clear hR hb
  have hnle : decide ((s.size : Int) ≤ (pos : Int)) = false := decide_eq_false (by omega)
  have hnle' : decide (s.size ≤ pos) = false := decide_eq_false (by omega)
  go_enter Try.func18, Try.ntmps18
  go_wp2_with fail
  clear g hnle hnle'
  go_loop [18, 19] (fun u v => ∃ st b : Nat, u = .int .i64 st ∧ v = .int .i64 b ∧ st ≤ s.size ∧ b ≤ st ∧ R = scan (bt s) s.size (judge s parent flow) st b st) (fun u _ => s.size + 1 - (intOf u).toNat)
  case atStart => exact ⟨pos + 1, 0, by go_num, rfl, by omega, by omega, HR.out⟩
  case round =>
    obtain ⟨st, b, rfl, rfl, hst, hbs, hR⟩ := hrel
    clear HR
    have HR := hid hR
    clear hR
    have hE := skip_le (p := nbr) (f := bt s) hst
    obtain ⟨E, hEE⟩ : ∃ E, skip nbr (bt s) s.size st = E := ⟨_, rfl⟩
    rw [hEE] at hE
    have hE1 := hE.1
    have hE2 := hE.2
    have HE := hid hEE
    have hc := skip_le (p := blk) (f := bt s) hst
    obtain ⟨c, hcc⟩ : ∃ c, skip blk (bt s) s.size st = c := ⟨_, rfl⟩
    rw [hcc] at hc
    have hc1 := hc.1
    have hc2 := hc.2
    have HC := hid hcc
    clear hE hEE hc hcc
    go_upto_block 2 with fail
    go_cut [20] (fun v wx => v = .int .i64 E ∧ wx = w)
    case first =>
      go_wp2_with fail
      go_loop [20] (fun u => ∃ m : Nat, u = .int .i64 m ∧ st ≤ m ∧ m ≤ s.size ∧ skip nbr (bt s) s.size m = E) (fun u => s.size - (intOf u).toNat)
      case atStart => exact ⟨st, rfl, Nat.le_refl _, hst, HE.out⟩
      case round =>
        obtain ⟨m, rfl, hm1, hm2, hm⟩ := hrel
        have HM := hid hm
        clear hm
        by_cases hlt : m < s.size
        · have g := bt_eq s m hlt
          rcases Bool.eq_false_or_eq_true (bt s m != 10) with h10 | h10
          · have HM' := hid ((skip_hit (p := nbr) (f := bt s) hlt h10).symm.trans HM.out)
            go_wp2_with fail
            go_round
            case rel => exact ⟨m + 1, by go_num, by omega, by omega, HM'.out⟩
            case measure => simp [intOf]; omega
          · have he : m = E := (skip_stop (p := nbr) (f := bt s) hlt h10).symm.trans HM.out
            have HQ := hid he
            clear he
            go_wp2_with fail
            go_meet
            case rel => exact ⟨by rw [HQ.out], rfl⟩
        · have he : m = E := (skip_out (p := nbr) (f := bt s) (by omega)).symm.trans HM.out
          have HQ := hid he
          clear he
          go_wp2_with fail
          go_meet
          case rel => exact ⟨by rw [HQ.out], rfl⟩
    case rest =>
      obtain ⟨rfl, hwc⟩ := hcut
      have hwc' := hwc.symm
      subst hwc'
      by_cases hch : c < s.size ∧ bt s c ≠ 10
      · -- the line holds a character, at c
        obtain ⟨hcn, h10⟩ := hch
        have hcE : c < E := by have := eol_char hst HC.out hcn h10; rw [HE.out] at this; exact this
        have hcb : blk (bt s c) = false := by have := skip_at (p := blk) (f := bt s) hst (by rw [HC.out]; exact hcn); rw [HC.out] at this; exact this
        have HCB := hid hcb
        have hL : R = if judge s parent flow st c = true then none else some (c, st, b) := by rw [HR.out]; exact scan_line hst HC.out hcn h10
        have HL := hid hL
        clear hL HR h10 hcb
        go_wp2_with fail
        go_loop [21, 22] (fun u v => ∃ j : Nat, u = .int .i64 (-1) ∧ v = .int .i64 j ∧ st ≤ j ∧ j ≤ c ∧ skip blk (bt s) s.size j = c) (fun _ v => c - (intOf v).toNat)
        case atStart => exact ⟨st, rfl, rfl, Nat.le_refl _, hc1, HC.out⟩
        case round =>
          obtain ⟨j, rfl, rfl, hj1, hj2, hj⟩ := hrel
          have HJ := hid hj
          clear hj
          have g := bt_eq s j (by omega)
          have HBL := hid (blank_any (bt s j) w)
          rcases Bool.eq_false_or_eq_true (blk (bt s j)) with hb | hb
          · have hjc : j < c := by
              rcases Nat.lt_or_ge j c with h1 | h1
              · exact h1
              · have e : j = c := by omega
                rw [e, HCB.out] at hb
                cases hb
            have HJ' := hid ((skip_hit (p := blk) (f := bt s) (by omega) hb).symm.trans HJ.out)
            rw [hb] at HBL
            clear hb
            go_wp2_with (go_at_call 13; refine HBL.out.mono ?_; rintro e w' ⟨rfl, hw'⟩; have hw'' := hw'.symm; subst hw'')
            go_round
            case rel => exact ⟨j + 1, rfl, by go_num, by omega, by omega, HJ'.out⟩
            case measure => simp [intOf]; omega
          · have e : j = c := (skip_stop (p := blk) (f := bt s) (by omega) hb).symm.trans HJ.out
            subst e
            rw [hb] at HBL
            clear hb HJ
            go_wp2_with (go_at_call 13; refine HBL.out.mono ?_; rintro e w' ⟨rfl, hw'⟩; have hw'' := hw'.symm; subst hw'')
            have hsp := skip_le (p := spc) (f := bt s) hst
            have hss := skip_skip (p := blk) (f := bt s) (n := s.size) (q := spc) blk_spc hst
            have hsq := skip_le (p := blk) (f := bt s) hsp.2
            rw [hss, HC.out] at hsq
            obtain ⟨q, hq⟩ : ∃ q, skip spc (bt s) s.size st = q := ⟨_, rfl⟩
            rw [hq] at hsp hsq
            have hq1 := hsp.1
            have hq2 := hsq.1
            have HQ := hid hq
            clear hsp hss hsq hq g HBL
            go_loop [23] (fun u => ∃ m : Nat, u = .int .i64 m ∧ st + m ≤ j ∧ skip spc (bt s) s.size (st + m) = q) (fun u => j - st - (intOf u).toNat)
            case atStart => exact ⟨0, rfl, by omega, HQ.out⟩
            case round =>
              obtain ⟨m, rfl, hm1, hm⟩ := hrel
              have HM := hid hm
              clear hm
              have i0 : (st : Int) + m < s.size := by omega
              have g := bt_eq s (st + m) (by omega)
              rcases Bool.eq_false_or_eq_true (bt s (st + m) == 32) with h32 | h32
              · have hjc : st + m < j := by
                  rcases Nat.lt_or_ge (st + m) j with h1 | h1
                  · exact h1
                  · have e : st + m = j := by omega
                    have h2 := blk_spc _ h32
                    rw [e, HCB.out] at h2
                    cases h2
                have HM' := hid ((skip_hit (p := spc) (f := bt s) (by omega) h32).symm.trans HM.out)
                go_wp2_with fail
                go_round
                case rel => exact ⟨m + 1, by go_num, by omega, HM'.out⟩
                case measure => simp [intOf]; omega
              · have hmq : st + m = q := (skip_stop (p := spc) (f := bt s) (by omega) h32).symm.trans HM.out
                have HMQ := hid hmq
                clear hmq HM
                have gc := bt_eq s j (by omega)
                go_upto_if 101 with fail
                go_cut [25] (fun v wx => v = .bool (judge s parent flow st j) ∧ wx = w)
                case first =>
                  have HF := hid (flow_any (bt s j) w)
                  have hS1 := starts_any s st E 45 w hs hst HE.out.symm (by decide)
                  have hS2 := starts_any s st E 46 w hs hst HE.out.symm (by decide)
                  have HS1 := hid hS1
                  have HS2 := hid hS2
                  clear hS1 hS2 HL HE HC HCB g h32
                  cases flow
                  · have hmi : ((skip spc (bt s) s.size st : Nat) : Int) - (st : Int) = (m : Int) := by rw [HQ.out, ← HMQ.out]; omega
                    have HMI := hid hmi
                    clear hmi
                    rcases Bool.eq_false_or_eq_true (decide ((m : Int) ≤ parent)) with hp | hp
                    · have hJ : judge s parent false st j = true := by simp only [judge, Bool.false_eq_true, if_false, HMI.out, hp, Bool.true_or, Bool.or_true]
                      have HJ := hid hJ
                      have hp' := of_decide_eq_true hp
                      clear hJ hp
                      go_wp2_with fail
                      go_meet
                      case rel => exact ⟨by rw [HJ.out], rfl⟩
                    · have hp' := of_decide_eq_false hp
                      rcases Bool.eq_false_or_eq_true (mk s st 45) with h45 | h45
                      · have hJ : judge s parent false st j = true := by simp only [judge, Bool.false_eq_true, if_false, h45, Bool.true_or, Bool.or_true]
                        have HJ := hid hJ
                        rw [h45] at HS1
                        clear hJ hp h45
                        go_wp2_with (go_at_call 29; refine HS1.out.mono ?_; rintro e w' ⟨rfl, hw'⟩; have hw'' := hw'.symm; subst hw'')
                        go_meet
                        case rel => exact ⟨by rw [HJ.out], rfl⟩
                      · rcases Bool.eq_false_or_eq_true (mk s st 46) with h46 | h46
                        · have hJ : judge s parent false st j = true := by simp only [judge, Bool.false_eq_true, if_false, h46, Bool.or_true]
                          have HJ := hid hJ
                          rw [h45] at HS1
                          rw [h46] at HS2
                          clear hJ hp h45 h46
                          go_wp2_with fail
                          refine HS1.out.mono ?_
                          rintro e w' ⟨rfl, hw'⟩
                          have hw'' := hw'.symm
                          subst hw''
                          go_wp2_with fail
                          refine HS2.out.mono ?_
                          rintro e w' ⟨rfl, hw'⟩
                          have hw'' := hw'.symm
                          subst hw''
                          go_wp2_with fail
                          go_meet
                          case rel => exact ⟨by rw [HJ.out], rfl⟩
                        · have hJ : judge s parent false st j = (bt s j == 35) := by simp only [judge, Bool.false_eq_true, if_false, HMI.out, hp, h45, h46, Bool.or_false]
                          have HJ := hid hJ
                          rw [h45] at HS1
                          rw [h46] at HS2
                          clear hJ hp h45 h46
                          go_wp2_with fail
                          refine HS1.out.mono ?_
                          rintro e w' ⟨rfl, hw'⟩
                          have hw'' := hw'.symm
                          subst hw''
                          go_wp2_with fail
                          refine HS2.out.mono ?_
                          rintro e w' ⟨rfl, hw'⟩
                          have hw'' := hw'.symm
                          subst hw''
                          go_wp2_with fail
                          go_meet
                          case rel => exact ⟨by rw [HJ.out], rfl⟩
                  · rcases Bool.eq_false_or_eq_true (flw (bt s j)) with hfl | hfl
                    · have hJ : judge s parent true st j = true := by simp only [judge, if_true, hfl, Bool.true_or, Bool.or_true]
                      have h58 : (bt s j == 58) = false := by
                        rw [beq_eq_false_iff_ne]; intro e; rw [e] at hfl; exact absurd hfl (by decide)
                      have HJ := hid hJ
                      rw [hfl] at HF
                      clear hJ hfl
                      go_wp2_with fail
                      refine HF.out.mono ?_
                      rintro e w' ⟨rfl, hw'⟩
                      have hw'' := hw'.symm
                      subst hw''
                      go_wp2_with fail
                      go_meet
                      case rel => exact ⟨by rw [HJ.out], rfl⟩
                    · rcases Bool.eq_false_or_eq_true (bt s j == 58) with h58 | h58
                      · have h35 : (bt s j == 35) = false := by rw [beq_iff_eq.1 h58]; rfl
                        have hJ : judge s parent true st j = via s (j + 1) := by simp only [judge, if_true, h35, hfl, h58, Bool.false_or, Bool.true_and]
                        rw [hfl] at HF
                        by_cases hn : j + 1 = s.size
                        · have hn' : ((j : Int) + 1 == (s.size : Int)) = true := beq_iff_eq.2 (by omega)
                          have hv : via s (j + 1) = true := by simp only [via, soe, show s.size ≤ j + 1 by omega, decide_true, Bool.true_or]
                          rw [hv] at hJ
                          have HJ := hid hJ
                          clear hJ hfl hv
                          go_wp2_with fail
                          refine HF.out.mono ?_
                          rintro e w' ⟨rfl, hw'⟩
                          have hw'' := hw'.symm
                          subst hw''
                          go_wp2_with fail
                          go_meet
                          case rel => exact ⟨by rw [HJ.out], rfl⟩
                        · have hn' : ((j : Int) + 1 == (s.size : Int)) = false := ne_beq (by omega)
                          have hlt : (j : Int) + 1 < (s.size : Int) := by omega
                          have g1 := bt_eq s (j + 1) (by omega)
                          have hso : soe s (j + 1) = bob (bt s (j + 1)) := by simp only [soe, show ¬ s.size ≤ j + 1 by omega, decide_false, Bool.false_or]
                          have HB := hid (bob_any (bt s (j + 1)) w)
                          have HF1 := hid (flow_any (bt s (j + 1)) w)
                          rcases Bool.eq_false_or_eq_true (bob (bt s (j + 1))) with hbo | hbo
                          · have hv : via s (j + 1) = true := by simp only [via, hso, hbo, Bool.true_or]
                            rw [hv] at hJ
                            have HJ := hid hJ
                            rw [hbo] at HB
                            clear hJ hfl hv hso hbo
                            go_wp2_with fail
                            refine HF.out.mono ?_
                            rintro e w' ⟨rfl, hw'⟩
                            have hw'' := hw'.symm
                            subst hw''
                            go_wp2_with fail
                            refine HB.out.mono ?_
                            rintro e w' ⟨rfl, hw'⟩
                            have hw'' := hw'.symm
                            subst hw''
                            go_wp2_with fail
                            go_meet
                            case rel => exact ⟨by rw [HJ.out], rfl⟩
                          · have hv : via s (j + 1) = flw (bt s (j + 1)) := by simp only [via, hso, hbo, Bool.false_or]
                            rw [hv] at hJ
                            rw [hbo] at HB
                            rcases Bool.eq_false_or_eq_true (flw (bt s (j + 1))) with hf1 | hf1
                            all_goals
                              rw [hf1] at hJ HF1
                              have HJ := hid hJ
                              clear hJ hfl hv hso hbo hf1
                              go_wp2_with fail
                              refine HF.out.mono ?_
                              rintro e w' ⟨rfl, hw'⟩
                              have hw'' := hw'.symm
                              subst hw''
                              go_wp2_with fail
                              refine HB.out.mono ?_
                              rintro e w' ⟨rfl, hw'⟩
                              have hw'' := hw'.symm
                              subst hw''
                              go_wp2_with fail
                              refine HF1.out.mono ?_
                              rintro e w' ⟨rfl, hw'⟩
                              have hw'' := hw'.symm
                              subst hw''
                              go_wp2_with fail
                              go_meet
                              case rel => exact ⟨by rw [HJ.out], rfl⟩
                      · have hJ : judge s parent true st j = (bt s j == 35) := by simp only [judge, if_true, hfl, h58, Bool.false_and, Bool.or_false]
                        have HJ := hid hJ
                        rw [hfl] at HF
                        clear hJ hfl
                        go_wp2_with fail
                        refine HF.out.mono ?_
                        rintro e w' ⟨rfl, hw'⟩
                        have hw'' := hw'.symm
                        subst hw''
                        go_wp2_with fail
                        go_meet
                        case rel => exact ⟨by rw [HJ.out], rfl⟩
                case rest =>
                  obtain ⟨hv, hwc⟩ := hcut
                  have hwc' := hwc.symm
                  subst hwc'
                  by_cases hjd : judge s parent flow st j = true
                  · rw [hjd] at hv
                    subst hv
                    have hN : R = none := by rw [HL.out, if_pos hjd]
                    have HN := hid hN
                    clear hN HL hjd
                    go_wp2_with fail
                    rw [HN.out]
                    exact bodyPost_ret (v := .tuple #[.int .i64 (pos : Int), .int .i64 line, .int .i64 ls, .int .i64 0, .bool false]) (by simp [results, Try.results18, go_sem]) rfl ⟨rfl, rfl⟩
                  · have hjd' : judge s parent flow st j = false := by simpa using hjd
                    rw [hjd'] at hv
                    subst hv
                    have hN : R = some (j, st, b) := by rw [HL.out, if_neg hjd]
                    have HN := hid hN
                    clear hN HL hjd hjd'
                    go_wp2_with fail
                    rw [HN.out]
                    exact bodyPost_ret (v := .tuple #[.int .i64 (j : Int), .int .i64 (wrap64 (wrap64 (line + (b : Int)) + 1)), .int .i64 (st : Int), .int .i64 (b : Int), .bool true]) (by simp [results, Try.results18, go_sem]) rfl ⟨model_out pos line ls j st b, rfl⟩
      · -- it holds nothing but blanks
        have hor : c = s.size ∨ bt s c = 10 := by
          by_cases h1 : c = s.size
          · exact .inl h1
          · by_cases h2 : bt s c = 10
            · exact .inr h2
            · exact absurd ⟨by omega, h2⟩ hch
        have hEc : E = c := by rw [← HE.out]; exact eol_blank hst HC.out hor
        subst hEc
        have HIN := hid (fun j (h1 : st ≤ j) (h2 : j < E) => skip_in (p := blk) (f := bt s) hst h1 (by rw [HC.out]; exact h2))
        clear hch
        go_wp2_with fail
        go_loop [21, 22] (fun u v => ∃ j : Nat, u = .int .i64 (-1) ∧ v = .int .i64 j ∧ st ≤ j ∧ j ≤ E) (fun _ v => E - (intOf v).toNat)
        case atStart => exact ⟨st, rfl, rfl, Nat.le_refl _, hc1⟩
        case round =>
          obtain ⟨j, rfl, rfl, hj1, hj2⟩ := hrel
          by_cases hlt : j < E
          · have g := bt_eq s j (by omega)
            have HBL := hid (blank_any (bt s j) w)
            rw [HIN.out j hj1 hlt] at HBL
            go_wp2_with (go_at_call 13; refine HBL.out.mono ?_; rintro e w' ⟨rfl, hw'⟩; have hw'' := hw'.symm; subst hw'')
            go_round
            case rel => exact ⟨j + 1, rfl, by go_num, by omega, by omega⟩
            case measure => simp [intOf]; omega
          · by_cases hn : E = s.size
            · have hN : R = none := by rw [HR.out]; exact scan_end hst (by rw [HC.out]; exact hn)
              have HN := hid hN
              have hn' : ((E : Int) == (s.size : Int)) = true := by rw [hn]; exact beq_self_eq_true _
              clear hN hn
              go_wp2_with fail
              rw [HN.out]
              exact bodyPost_ret (v := .tuple #[.int .i64 (pos : Int), .int .i64 line, .int .i64 ls, .int .i64 0, .bool false]) (by simp [results, Try.results18, go_sem]) rfl ⟨rfl, rfl⟩
            · have h10 : bt s E = 10 := by rcases hor with h1 | h1; exact absurd h1 hn; exact h1
              have hN : R = scan (bt s) s.size (judge s parent flow) (E + 1) (b + 1) (E + 1) := by rw [HR.out]; exact scan_next hst HC.out (by omega) h10
              have HN := hid hN
              have hn' : ((E : Int) == (s.size : Int)) = false := ne_beq (by omega)
              have hElt : E < s.size := by omega
              clear hN hn hor h10
              go_wp2_with fail
              go_round
              case rel => exact ⟨E + 1, b + 1, by go_num, by go_num, by omega, by omega, HN.out⟩
              case measure => simp [intOf]; omega

/-- zzContinuationModel, whatever pos is. -/
theorem model_all (s : ByteArray) (pos line ls parent : Int) (flow : Bool) (w : World) (hs : s.size ≤ 1048576) (h0 : 0 ≤ pos) :
    Calls Try.prog 18 #[.string s, .int .i64 pos, .int .i64 line, .int .i64 ls, .int .i64 parent, .bool flow] w fun e w' => e = .returned (outT (found s parent flow pos) pos line ls) ∧ w' = w := by
  by_cases hb : pos < s.size ∧ bt s pos.toNat = 10
  · obtain ⟨p, rfl⟩ : ∃ p : Nat, pos = p := ⟨pos.toNat, by omega⟩
    rw [Int.toNat_natCast] at hb
    exact model_yes s p line ls parent flow w hs (by omega) hb.2 _ (by unfold found; rw [Int.toNat_natCast, if_pos hb])
  · have e : found s parent flow pos = none := by unfold found; rw [if_neg hb]
    rw [e]
    exact model_no s pos line ls parent flow w hs h0 hb
end Go.Proofs.Qxb6603404a
