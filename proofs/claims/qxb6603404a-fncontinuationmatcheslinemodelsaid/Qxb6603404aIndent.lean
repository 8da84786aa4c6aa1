/-
  THE WALK OF indentation (seat b6603404a).
-/
import Derived.Test.Qxb6603404aSmall
namespace Go.Proofs.Qxb6603404a
open Go.RowKit Plain
set_option linter.unusedVariables false

theorem ret_int2 {k : IntKind} {a b c d : Int} (h : a = c) (h' : b = d) : Ending.returned (.tuple #[.int k a, .int k b]) = .returned (.tuple #[.int k c, .int k d]) := by rw [h, h']

set_option maxHeartbeats 1000000 in
theorem indent_any (s : ByteArray) (st P : Nat) (w : World) (hs : s.size ≤ 1048576) (hst : st ≤ s.size) (hc : w.cell? ⟨P, 1, none⟩ = some (.string s)) :
    Calls Try.prog 32 #[.pointer (some ⟨P, 0, none⟩), .int .i64 st] w fun e w' => e = .returned (.tuple #[.int .i64 (skip spc (bt s) s.size st), .int .i64 (skip blk (bt s) s.size st)]) ∧ w' = w := by
  have hsp := skip_le (p := spc) (f := bt s) hst
  have HE := hid (skip_skip (p := blk) (f := bt s) (q := spc) blk_spc hst)
  go_enter Try.func32, Try.ntmps32
  go_wp2
  go_loop [4] (fun k => ∃ m : Nat, m ≤ s.size ∧ k = .int .i64 m ∧ skip spc (bt s) s.size st = skip spc (bt s) s.size m) (fun k => s.size - (intOf k).toNat)
  case atStart => exact ⟨st, hst, rfl, rfl⟩
  case round =>
    obtain ⟨m, hm, rfl, he⟩ := hrel
    have HM := hid he
    clear he
    by_cases hlt : m < s.size
    · have g := bt_eq s m hlt
      by_cases hb : bt s m = 32
      · have HH := hid (HM.out.trans (skip_hit hlt (by rw [hb]; rfl)))
        rw [hb] at g
        clear hb
        go_wp2
        go_round
        case rel => exact ⟨m + 1, by omega, by go_num, HH.out⟩
        case measure => simp [intOf]; omega
      · have hb' := ne_beq hb
        have HH := hid (HM.out.trans (skip_stop hlt hb'))
        clear hb HM
        go_wp2
        clear g hb' hlt
        go_loop [5] (fun k => ∃ j : Nat, j ≤ s.size ∧ k = .int .i64 j ∧ skip blk (bt s) s.size st = skip blk (bt s) s.size j) (fun k => s.size - (intOf k).toNat)
        case atStart => exact ⟨m, hm, rfl, by rw [← HE.out, HH.out]⟩
        case round =>
          obtain ⟨j, hj, rfl, he⟩ := hrel
          have HM := hid he
          clear he
          by_cases hlt : j < s.size
          · have g := bt_eq s j hlt
            by_cases hb : bt s j = 32
            · have HB := hid (HM.out.trans (skip_hit hlt (by rw [hb]; rfl)))
              rw [hb] at g
              clear hb
              go_wp2
              go_round
              case rel => exact ⟨j + 1, by omega, by go_num, HB.out⟩
              case measure => simp [intOf]; omega
            by_cases hb2 : bt s j = 9
            · have HB := hid (HM.out.trans (skip_hit hlt (by rw [hb2]; rfl)))
              rw [hb2] at g
              clear hb hb2
              go_wp2
              go_round
              case rel => exact ⟨j + 1, by omega, by go_num, HB.out⟩
              case measure => simp [intOf]; omega
            · have c1 := ne_beq hb
              have c2 := ne_beq hb2
              have HB := hid (HM.out.trans (skip_stop hlt (by simp [blk, hb, hb2])))
              clear hb hb2
              go_wp2
              go_ret2
              exact ⟨ret_int2 (by rw [HH.out]) (by rw [HB.out]), rfl⟩
          · have HB := hid (HM.out.trans (skip_out (by omega)))
            go_wp2
            go_ret2
            exact ⟨ret_int2 (by rw [HH.out]) (by rw [HB.out]), rfl⟩
    · have HH := hid (HM.out.trans (skip_out (by omega)))
      clear HM
      go_wp2
      clear hlt
      go_loop [5] (fun k => ∃ j : Nat, j ≤ s.size ∧ k = .int .i64 j ∧ skip blk (bt s) s.size st = skip blk (bt s) s.size j) (fun k => s.size - (intOf k).toNat)
      case atStart => exact ⟨m, hm, rfl, by rw [← HE.out, HH.out]⟩
      case round =>
        obtain ⟨j, hj, rfl, he⟩ := hrel
        have HM := hid he
        clear he
        by_cases hlt : j < s.size
        · have g := bt_eq s j hlt
          by_cases hb : bt s j = 32
          · have HB := hid (HM.out.trans (skip_hit hlt (by rw [hb]; rfl)))
            rw [hb] at g
            clear hb
            go_wp2
            go_round
            case rel => exact ⟨j + 1, by omega, by go_num, HB.out⟩
            case measure => simp [intOf]; omega
          by_cases hb2 : bt s j = 9
          · have HB := hid (HM.out.trans (skip_hit hlt (by rw [hb2]; rfl)))
            rw [hb2] at g
            clear hb hb2
            go_wp2
            go_round
            case rel => exact ⟨j + 1, by omega, by go_num, HB.out⟩
            case measure => simp [intOf]; omega
          · have c1 := ne_beq hb
            have c2 := ne_beq hb2
            have HB := hid (HM.out.trans (skip_stop hlt (by simp [blk, hb, hb2])))
            clear hb hb2
            go_wp2
            go_ret2
            exact ⟨ret_int2 (by rw [HH.out]) (by rw [HB.out]), rfl⟩
        · have HB := hid (HM.out.trans (skip_out (by omega)))
          go_wp2
          go_ret2
          exact ⟨ret_int2 (by rw [HH.out]) (by rw [HB.out]), rfl⟩
end Go.Proofs.Qxb6603404a
