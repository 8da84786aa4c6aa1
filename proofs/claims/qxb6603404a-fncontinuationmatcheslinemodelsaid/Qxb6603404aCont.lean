/-
  THE WALK OF continuation (seat b6603404a).
-/
import Derived.Test.Qxb6603404aCnt
import Derived.Deep.RegionWith
import Derived.Deep.DeepCutAuto
namespace Go.Proofs.Qxb6603404a
open Go.RowKit Plain
set_option linter.unusedVariables false

theorem count_any (s : ByteArray) (a b : Nat) (w : World) : Calls Try.prog 34 #[.string (s.extract a b), .string ⟨#[10]⟩] w fun e w' => e = .returned (.int .i64 (cnt s a b)) ∧ w' = w := by
  have h := Try.strings_Count_one (s.extract a b) 10 w
  rw [Lib.extract_data] at h
  exact h

theorem m45 {s : ByteArray} {P st : Nat} {i : Int} {w : World} {r : Bool} (h : Hid (Calls Try.prog 33 #[.pointer (some ⟨P, 0, none⟩), .int .i64 i, .string ⟨#[45, 45, 45]⟩] w fun e w' => e = .returned (.bool (mk s st ((45 : UInt8).toNat : Nat))) ∧ w' = w)) (hr : mk s st 45 = r) :
    Hid (Calls Try.prog 33 #[.pointer (some ⟨P, 0, none⟩), .int .i64 i, .string ⟨#[45, 45, 45]⟩] w fun e w' => e = .returned (.bool r) ∧ w' = w) := by
  rw [← hr]; exact h
theorem m46 {s : ByteArray} {P st : Nat} {i : Int} {w : World} {r : Bool} (h : Hid (Calls Try.prog 33 #[.pointer (some ⟨P, 0, none⟩), .int .i64 i, .string ⟨#[46, 46, 46]⟩] w fun e w' => e = .returned (.bool (mk s st ((46 : UInt8).toNat : Nat))) ∧ w' = w)) (hr : mk s st 46 = r) :
    Hid (Calls Try.prog 33 #[.pointer (some ⟨P, 0, none⟩), .int .i64 i, .string ⟨#[46, 46, 46]⟩] w fun e w' => e = .returned (.bool r) ∧ w' = w) := by
  rw [← hr]; exact h

theorem moved_of {w : World} {P : Nat} {s : ByteArray} {p l q : Int} (h : Fields w P s p l q) {p' l' q' l1 q1 : Int} (hl : l1 = l') (hq : q1 = q') :
    Moved w (((w.setCell ⟨P, 3, none⟩ (.int .i64 (wrap64 (l + l1)))).setCell ⟨P, 4, none⟩ (.int .i64 q1)).setCell ⟨P, 2, none⟩ (.int .i64 p')).drew P p' (wrap64 (l + l')) q' := by
  subst hl; subst hq
  exact moved h _ _ _

/-- What continuation answers where pos stands at a break: R is the search's answer. -/
def Answer (R : Option (Nat × Nat × Nat)) (P : Nat) (line : Int) (w : World) (e : Ending) (w' : World) : Prop :=
  (R = none ∧ e = .returned (.tuple #[.int .i64 0, .bool false]) ∧ w' = w) ∨
  ∃ c st b : Nat, R = some (c, st, b) ∧ e = .returned (.tuple #[.int .i64 b, .bool true]) ∧ Moved w w' P c (wrap64 (line + ((b : Int) + 1))) st

set_option maxHeartbeats 4000000 in
set_option maxRecDepth 100000 in
theorem cont_any (s : ByteArray) (P pos : Nat) (line ls parent : Int) (flow : Bool) (w : World) (hs : s.size ≤ 1048576) (h : Fields w P s pos line ls) (hpos : pos < s.size) (hb : bt s pos = 10)
    (R : Option (Nat × Nat × Nat)) (hR : R = scan (bt s) s.size (judge s parent flow) (pos + 1) 0 (pos + 1)) :
    Calls Try.prog 27 #[.pointer (some ⟨P, 0, none⟩), .int .i64 parent, .bool flow] w fun e w' => Answer R P line w e w' := by
  have c1 := h.src; have c2 := h.pos; have c3 := h.line; have c4 := h.ls; have f2 := h.f2; have f3 := h.f3; have f4 := h.f4
  have HR := hid hR
  have HB := hid hb
  clear hR hb
  go_enter Try.func27, Try.ntmps27
  go_wp2_with fail
  go_loop [8, 9] (fun u v => ∃ k b : Nat, u = .int .i64 ((b : Int) - 1) ∧ v = .int .i64 k ∧ pos ≤ k ∧ k < s.size ∧ b ≤ k ∧ bt s k = 10 ∧ cnt s pos k = b ∧ R = scan (bt s) s.size (judge s parent flow) (k + 1) b (k + 1)) (fun _ v => s.size - (intOf v).toNat)
  case atStart => exact ⟨pos, 0, rfl, rfl, Nat.le_refl _, hpos, Nat.zero_le _, HB.out, cnt_self s pos, HR.out⟩
  case round =>
    obtain ⟨k, b, rfl, rfl, hpk, hk, hbk, hb, hcnt, hR⟩ := hrel
    clear HR HB
    have HR := hid hR
    have g := bt_eq s k hk
    rw [hb] at g
    have HCN := hid (cnt_break s pos k hpk hk hb)
    have HCT := hid hcnt
    clear hR hb hcnt
    have hc := skip_le (p := blk) (f := bt s) (n := s.size) (k := k + 1) (by omega)
    obtain ⟨c, hcc⟩ : ∃ c, skip blk (bt s) s.size (k + 1) = c := ⟨_, rfl⟩
    rw [hcc] at hc
    have hI := indent_any s (k + 1) P w hs (by omega) c1
    rw [hcc, show ((k + 1 : Nat) : Int) = (k : Int) + 1 by omega] at hI
    have HI := hid hI
    have HC := hid hcc
    clear hI hcc
    by_cases hend : c = s.size
    · have hE : R = none := by rw [HR.out]; exact scan_end (by omega) (by rw [HC.out]; exact hend)
      have HE := hid hE
      clear hE
      subst hend
      go_wp2_with (go_at_call 32; refine HI.out.mono ?_; rintro e w' ⟨rfl, rfl⟩)
      go_ret2
      exact .inl ⟨HE.out, rfl, rfl⟩
    · have hcn : c < s.size := by omega
      have hne : ((c : Int) == (s.size : Int)) = false := ne_beq (by omega)
      clear hend
      have gc := bt_eq s c hcn
      by_cases h10 : bt s c = 10
      · have hN : R = scan (bt s) s.size (judge s parent flow) (c + 1) (b + 1) (c + 1) := by rw [HR.out]; exact scan_next (by omega) HC.out hcn h10
        have hK : cnt s pos c = b + 1 := by
          have := cnt_blanks s pos (k + 1) (by omega) (c - (k + 1)) (by omega) (fun j h1 h2 => skip_in (p := blk) (f := bt s) (n := s.size) (k := k + 1) (by omega) h1 (by rw [HC.out]; omega))
          rw [show k + 1 + (c - (k + 1)) = c by omega] at this
          rw [this, HCN.out, HCT.out]
        have HN := hid hN
        have HK := hid hK
        have HX := hid h10
        rw [h10] at gc
        clear hN hK h10 HR
        go_wp2_with (go_at_call 32; refine HI.out.mono ?_; rintro e w' ⟨rfl, rfl⟩)
        go_round
        case rel => exact ⟨c, b + 1, by go_num, rfl, by omega, hcn, by omega, HX.out, HK.out, HN.out⟩
        case measure => simp [intOf]; omega
      · have hL : R = if judge s parent flow (k + 1) c = true then none else some (c, k + 1, b) := by rw [HR.out]; exact scan_line (by omega) HC.out hcn h10
        have HL := hid hL
        have h10' := ne_beq h10
        clear hL h10 HR
        go_upto_if 66 with (go_at_call 32; refine HI.out.mono ?_; rintro e w' ⟨rfl, rfl⟩)
        go_cut [13] (fun v wx => v = .bool (judge s parent flow (k + 1) c) ∧ wx = w')
        case first =>
          have HV := hid (via_any s (c + 1) P w' hs (by omega) c1)
          rw [show ((c + 1 : Nat) : Int) = (c : Int) + 1 by omega] at HV
          have HF := hid (isFlow_any (bt s c) w')
          have hM1 := mark_any s (k + 1) P 45 w' hs (by omega) c1
          have hM2 := mark_any s (k + 1) P 46 w' hs (by omega) c1
          rw [show ((k + 1 : Nat) : Int) = (k : Int) + 1 by omega] at hM1 hM2
          have HM1 := hid hM1
          have HM2 := hid hM2
          clear hM1 hM2 HI HL HCN HCT
          rcases Bool.eq_false_or_eq_true (bt s c == 35) with h35 | h35
          · have hJ : judge s parent flow (k + 1) c = true := by simp only [judge, h35, Bool.true_or]
            have HJ := hid hJ
            clear hJ
            cases flow
            all_goals
              go_wp2_with fail
              go_meet
              case rel => exact ⟨by rw [HJ.out], rfl⟩
          · cases flow
            · have hsp := skip_le (p := spc) (f := bt s) (n := s.size) (k := k + 1) (by omega)
              have hsp1 := hsp.1
              have hsp2 := hsp.2
              clear hsp
              rcases Bool.eq_false_or_eq_true (decide (((skip spc (bt s) s.size (k + 1) : Nat) : Int) - ((k : Int) + 1) ≤ parent)) with hp | hp
              · have hJ : judge s parent false (k + 1) c = true := by simp only [judge, h35, Bool.false_or, Bool.false_eq_true, if_false, show ((k + 1 : Nat) : Int) = (k : Int) + 1 by omega, hp, Bool.true_or]
                have HJ := hid hJ
                clear hJ
                have hp' := of_decide_eq_true hp
                clear hp
                go_wp2_with fail
                go_meet
                case rel => exact ⟨by rw [HJ.out], rfl⟩
              · have hp' := of_decide_eq_false hp
                rcases Bool.eq_false_or_eq_true (mk s (k + 1) 45) with h45 | h45
                · have hJ : judge s parent false (k + 1) c = true := by simp only [judge, h35, Bool.false_or, Bool.false_eq_true, if_false, show ((k + 1 : Nat) : Int) = (k : Int) + 1 by omega, hp, h45, Bool.true_or]
                  have HJ := hid hJ
                  have HM1' := m45 HM1 h45
                  clear hJ hp h45 HM1
                  go_wp2_with (go_at_call 33; refine HM1'.out.mono ?_; rintro e w'' ⟨rfl, rfl⟩)
                  go_meet
                  case rel => exact ⟨by rw [HJ.out], rfl⟩
                · have HM1' := m45 HM1 h45
                  rcases Bool.eq_false_or_eq_true (mk s (k + 1) 46) with h46 | h46
                  all_goals
                    have hJ : judge s parent false (k + 1) c = mk s (k + 1) 46 := by simp only [judge, h35, Bool.false_or, Bool.false_eq_true, if_false, show ((k + 1 : Nat) : Int) = (k : Int) + 1 by omega, hp, h45]
                    rw [h46] at hJ
                    have HJ := hid hJ
                    have HM2' := m46 HM2 h46
                    clear hJ hp h45 h46 HM1 HM2
                    go_wp2_with fail
                    refine HM1'.out.mono ?_
                    rintro e w'' ⟨rfl, rfl⟩
                    go_wp2_with fail
                    refine HM2'.out.mono ?_
                    rintro e w'' ⟨rfl, rfl⟩
                    go_wp2_with fail
                    go_meet
                    case rel => exact ⟨by rw [HJ.out], rfl⟩
            · rcases Bool.eq_false_or_eq_true (flw (bt s c)) with hfl | hfl
              · have hJ : judge s parent true (k + 1) c = true := by simp only [judge, h35, Bool.false_or, if_true, hfl, Bool.true_or]
                have HJ := hid hJ
                rw [hfl] at HF
                clear hJ hfl
                go_wp2_with (go_at_call 31; refine HF.out.mono ?_; rintro e w'' ⟨rfl, rfl⟩)
                go_meet
                case rel => exact ⟨by rw [HJ.out], rfl⟩
              · rw [hfl] at HF
                rcases Bool.eq_false_or_eq_true (bt s c == 58) with h58 | h58
                · rcases Bool.eq_false_or_eq_true (via s (c + 1)) with hv | hv
                  all_goals
                    have hJ : judge s parent true (k + 1) c = via s (c + 1) := by simp only [judge, h35, Bool.false_or, if_true, hfl, h58, Bool.true_and]
                    rw [hv] at HV hJ
                    have HJ := hid hJ
                    clear hJ hfl hv
                    go_wp2_with (first | (go_at_call 31; refine HF.out.mono ?_; rintro e w'' ⟨rfl, rfl⟩) | (go_at_call 30; refine HV.out.mono ?_; rintro e w'' ⟨rfl, rfl⟩))
                    go_meet
                    case rel => exact ⟨by rw [HJ.out], rfl⟩
                · have hJ : judge s parent true (k + 1) c = false := by simp only [judge, h35, Bool.false_or, if_true, hfl, h58, Bool.false_and]
                  have HJ := hid hJ
                  clear hJ hfl
                  go_wp2_with (go_at_call 31; refine HF.out.mono ?_; rintro e w'' ⟨rfl, rfl⟩)
                  go_meet
                  case rel => exact ⟨by rw [HJ.out], rfl⟩
        case rest =>
          obtain ⟨hv, rfl⟩ := hcut
          have i1 : (k : Int) + 1 ≤ (s.size : Int) := by omega
          have i2 : (pos : Int) ≤ (k : Int) + 1 := by omega
          have i3 : (0 : Int) ≤ (pos : Int) := by omega
          by_cases hj : judge s parent flow (k + 1) c = true
          · rw [hj] at hv
            subst hv
            have hE : R = none := by rw [HL.out, if_pos hj]
            have HE := hid hE
            clear hE HL
            go_wp2_with fail
            go_ret2
            exact .inl ⟨HE.out, rfl, rfl⟩
          · have hj' : judge s parent flow (k + 1) c = false := by simpa using hj
            have hE : R = some (c, k + 1, b) := by rw [HL.out, if_neg hj]
            have HE := hid hE
            have hfin : Moved wc (((wc.setCell ⟨P, 3, none⟩ (.int .i64 (wrap64 (line + ((cnt s pos (k + 1) : Nat) : Int))))).setCell ⟨P, 4, none⟩ (.int .i64 ((k : Int) + 1))).setCell ⟨P, 2, none⟩ (.int .i64 (c : Int))).drew P (c : Int) (wrap64 (line + ((b : Int) + 1))) ((k + 1 : Nat) : Int) :=
              moved_of h (by rw [HCN.out, HCT.out]; rfl) (by omega)
            have FIN := hid hfin
            clear hfin
            rw [hj'] at hv
            subst hv
            clear hE HL hj hj'
            go_wp2_with fail
            go_region_with (go_at_call 34; refine (count_any s _ _ _).mono ?_; rintro e w'' ⟨rfl, rfl⟩)
            all_goals go_wp2_with fail
            all_goals go_ret2
            all_goals refine .inr ⟨c, k + 1, b, HE.out, rfl, ?_⟩
            all_goals exact FIN.out
end Go.Proofs.Qxb6603404a
