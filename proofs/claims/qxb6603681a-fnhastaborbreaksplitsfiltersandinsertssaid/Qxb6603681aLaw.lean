/-
  THE WALK OF THE LAW FnHasTabOrBreakSplitsFiltersAndInserts (seat b6603681a).
-/
import Derived.Test.Qxb6603681aParts
import Derived.Deep.DeepCutAuto
import Derived.Deep.CutBlock
namespace Go.Proofs.Qxb6603681a
open Go.RowKit
set_option linter.unusedVariables false

/-- The clone's parts, in a world in which it stands. -/
theorem has_whole {w : World} {B n : Nat} {xs : List Int} (hx : xs.length = n) (hb : ∀ x ∈ xs, 0 ≤ x ∧ x < 256) (hc : ∀ j, j < n → w.cell? ⟨B, j, none⟩ = some (.int .u8 (nth xs j))) : Has w (.slice (some ⟨B, 0, none⟩) n n) xs :=
  ⟨hb, .inr ⟨B, 0, n, by rw [hx], fun i hi => by rw [Nat.zero_add]; exact hc i (by omega)⟩⟩
theorem has_front {w : World} {B n p : Nat} {xs : List Int} (hx : xs.length = n) (hp : p ≤ n) (hb : ∀ x ∈ xs, 0 ≤ x ∧ x < 256) (hc : ∀ j, j < n → w.cell? ⟨B, j, none⟩ = some (.int .u8 (nth xs j))) : Has w (.slice (some ⟨B, 0, none⟩) p n) (xs.take p) := by
  have hl : (xs.take p).length = p := by rw [List.length_take]; omega
  refine ⟨fun x h => hb x (List.mem_of_mem_take h), .inr ⟨B, 0, n, by rw [hl], fun i hi => ?_⟩⟩
  rw [Nat.zero_add, hc i (by omega)]
  simp [nth, List.getD, show i < p by omega]
theorem has_back {w : World} {B n p : Nat} {xs : List Int} (hx : xs.length = n) (hp : p ≤ n) (hb : ∀ x ∈ xs, 0 ≤ x ∧ x < 256) (hc : ∀ j, j < n → w.cell? ⟨B, j, none⟩ = some (.int .u8 (nth xs j))) (o : Nat) (ho : p < n → o = p) : Has w (.slice (some ⟨B, o, none⟩) (n - p) (n - p)) (xs.drop p) := by
  have hl : (xs.drop p).length = n - p := by rw [List.length_drop]; omega
  refine ⟨fun x h => hb x (List.mem_of_mem_drop h), .inr ⟨B, o, n - p, by rw [hl], fun i hi => ?_⟩⟩
  rw [ho (by omega), hc (p + i) (by omega)]
  simp [nth, List.getD]

theorem nth_take {xs : List Int} {p j : Nat} (h : j < p) : nth xs j = (xs.take p).getD j 0 := by simp [nth, List.getD, h]
theorem nth_drop (xs : List Int) (p j : Nat) : nth xs (p + j) = (xs.drop p).getD j 0 := by simp [nth, List.getD]
theorem own_eq {w : World} {base : Nat} {v : Value} {n : Nat} {xs ys : List Value} (h : w.ownsRow base 5 1 v n xs) (e : xs = ys) : w.ownsRow base 5 1 v n ys := e ▸ h
theorem ints_one (ys : List Int) (u : Value) (h : u ∈ ys.map (Value.int .u8)) : u.oneCell' = true := by
  obtain ⟨x, _, rfl⟩ := List.mem_map.1 h
  rfl
theorem part_cells {w : World} {B o : Nat} {ys : List Int} (h : ∀ j, j < ys.length → w.cell? ⟨B, o + j, none⟩ = some (.int .u8 (ys.getD j 0))) (j : Nat) (u : Value) (hu : (ys.map (Value.int .u8))[j]? = some u) : w.cell? ((⟨B, o, none⟩ : Addr).add j) = some u := by
  have hj : j < ys.length := by
    have := (List.getElem?_eq_some_iff.1 hu).1
    simpa using this
  have e : (⟨B, o, none⟩ : Addr).add j = ⟨B, o + j, none⟩ := by unfold Addr.add; split <;> simp_all
  rw [e, h j hj, ← hu, List.getElem?_map, List.getElem?_eq_getElem hj]
  simp [List.getD, hj]
theorem ins_bytes {xs : List Int} {p : Nat} {cc : Int} (hb : ∀ x ∈ xs, 0 ≤ x ∧ x < 256) (h0 : 0 ≤ cc) (h1 : cc < 256) : ∀ x ∈ xs.take p ++ [cc] ++ xs.drop p, 0 ≤ x ∧ x < 256 := by
  intro x hx
  rcases List.mem_append.1 hx with hx | hx
  · rcases List.mem_append.1 hx with hx | hx
    · exact hb x (List.mem_of_mem_take hx)
    · rw [List.mem_singleton.1 hx]; exact ⟨h0, h1⟩
  · exact hb x (List.mem_of_mem_drop hx)
theorem one_new (w : World) (v : Value) (j : Nat) (u : Value) (h : [v][j]? = some u) : (w.alloc (.cells #[v] 5)).cell? ((⟨w.heap.size, 0, none⟩ : Addr).add j) = some u := by
  match j, h with
  | 0, h => simp at h; subst h; simp [Addr.add]

set_option maxHeartbeats 4000000 in
set_option maxRecDepth 100000 in
theorem law_some (x : Addr) (n cap p : Nat) (xs : List Int) (k : Int) (w : World) (hn : n ≤ 1048576) (hp : p ≤ n) (hx : xs.length = n) (hb : ∀ x ∈ xs, 0 ≤ x ∧ x < 256)
    (hcl : Calls Try.prog 7 #[.slice (some x) n cap] w fun e w' => e = .returned (.slice (some ⟨w.heap.size, 0, none⟩) n n) ∧ Cloned w w' n xs) :
    Calls Try.prog 4 #[.slice (some x) n cap, .int .i64 p, .int .u8 k] w fun e w' => e = .returned (.bool true) ∧ Below w.heap.size w w' := by
  obtain ⟨i0, hi, hz0, hz1, hz2⟩ := info_parts info5
  have HCL := hid hcl
  have HX := hid hx
  clear hcl hx
  obtain ⟨B, hB⟩ : ∃ B, w.heap.size = B := ⟨_, rfl⟩
  go_enter Try.func4, Try.ntmps4
  go_wp2_with (go_at_call 10; go_in)
  refine HCL.out.mono ?_
  rintro e w1 ⟨rfl, hC⟩
  have hlt := hC.lt
  have hcell := hC.cell
  have HBW := hid hC.below
  rw [hB] at hlt hcell HBW ⊢
  clear hC HCL
  go_upto_if 32 with fail
  go_cut [7] (fun v wx => ∃ cc : Int, v = .int .u8 cc ∧ isT cc = true ∧ 0 ≤ cc ∧ cc < 256 ∧ wx = w1)
  case first =>
    rcases Bool.eq_false_or_eq_true (k == 0) with h0 | h0
    · go_wp2_with fail
      go_meet
      case rel => exact ⟨9, rfl, rfl, by decide, by decide, rfl⟩
    · rcases Bool.eq_false_or_eq_true (k == 1) with h1 | h1
      · go_wp2_with fail
        go_meet
        case rel => exact ⟨10, rfl, rfl, by decide, by decide, rfl⟩
      · go_wp2_with fail
        go_meet
        case rel => exact ⟨13, rfl, rfl, by decide, by decide, rfl⟩
  case rest =>
    obtain ⟨cc, rfl, hT, hc0, hc1, hwc⟩ := hcut
    have hwc' := hwc.symm
    subst hwc'
    have HT := hid hT
    clear hT
    have HWH := hid (has_any (has_whole HX.out hb hcell))
    have HFR := hid (has_any (has_front HX.out hp hb hcell))
    have HBK := hid (fun o ho => has_any (has_back HX.out hp hb hcell o ho))
    have HSP := hid (hasT_split xs p)
    go_upto_region 14 with (go_at_call 9; refine HWH.out.mono ?_; rintro e w' ⟨rfl, hw'⟩; have hw'' := hw'.symm; subst hw'')
    go_cut [9] (fun v wx => v = .bool (hasT xs) ∧ wx = w1)
    case first =>
      have i1 : (p : Int) ≤ (n : Int) := by omega
      rcases Bool.eq_false_or_eq_true (hasT (xs.take p)) with hf | hf
      · have hs := HSP.out
        rw [hf, Bool.true_or] at hs
        have HS := hid hs
        rw [hf] at HFR
        clear hs hf HBK HSP
        go_wp2_with (go_at_call 9; refine HFR.out.mono ?_; rintro e w' ⟨rfl, hw'⟩; have hw'' := hw'.symm; subst hw'')
        go_meet
        case rel => exact ⟨by rw [HS.out], rfl⟩
      · have hs := HSP.out
        rw [hf, Bool.false_or] at hs
        have HS := hid hs
        rw [hf] at HFR
        clear hs hf HSP
        by_cases hpn : p < n
        · have HB2 := hid (HBK.out p (fun _ => rfl))
          clear HBK
          go_wp2_with fail
          refine HFR.out.mono ?_
          rintro e w' ⟨rfl, hw'⟩
          have hw'' := hw'.symm
          subst hw''
          go_wp2_with fail
          refine HB2.out.mono ?_
          rintro e w' ⟨rfl, hw'⟩
          have hw'' := hw'.symm
          subst hw''
          go_wp2_with fail
          go_meet
          case rel => exact ⟨by rw [HS.out], rfl⟩
        · have e : p = n := by omega
          subst e
          have hB2 := HBK.out 0 (fun h => absurd h hpn)
          rw [Nat.sub_self] at hB2
          have HB2 := hid hB2
          clear HBK hB2
          go_wp2_with fail
          refine HFR.out.mono ?_
          rintro e w' ⟨rfl, hw'⟩
          have hw'' := hw'.symm
          subst hw''
          go_wp2_with fail
          refine HB2.out.mono ?_
          rintro e w' ⟨rfl, hw'⟩
          have hw'' := hw'.symm
          subst hw''
          go_wp2_with fail
          go_meet
          case rel => exact ⟨by rw [HS.out], rfl⟩
    case rest =>
      obtain ⟨rfl, hwc⟩ := hcut
      have hwc' := hwc.symm
      subst hwc'
      clear HWH HFR HBK HSP
      go_wp2_with (at_make; refine wpList_make_own _ rfl _ _ 22 rfl w1.heap.size 5 i0 (.int .u8 0) 1 Try.underlying22 hi hz0 hz1 _ _ _ n rfl rfl (by omega) ?b2 ?b3 (Nat.le_refl _) ?_)
      case b2 => omega
      case b3 => unfold maxLen; omega
      intro w2 hown0 hgrow0
      have HB0 := hid (((Below.refl w1.heap.size w1).grown hgrow0 (Nat.le_refl _) (fun k h => by cases h)))
      have HO0 := hid hown0
      clear hown0 hgrow0
      go_wp2_with fail
      go_loopw [10, 11] (fun v i wr => ∃ q : Nat, q ≤ n ∧ i = .int .i64 q ∧ wr.ownsRow w1.heap.size 5 1 v (kept xs q).length ((kept xs q).map (Value.int .u8)) ∧ Below w1.heap.size w1 wr) (fun _ i _ => n - (intOf i).toNat)
      case atStart => exact ⟨0, Nat.zero_le _, rfl, HO0.out, HB0.out⟩
      case round =>
        obtain ⟨q, hq, rfl, hown, hbel⟩ := hrel
        clear HO0 HB0
        by_cases hqn : q < n
        · have g : wr.cell? ⟨B, q, none⟩ = some (.int .u8 (nth xs q)) := by rw [hbel.cell (p := ⟨B, q, none⟩) hlt]; exact hcell q hqn
          have HIT := hid (isT_any (nth xs q) wr)
          have hkl := kept_le xs q
          have hsz := hbel.size
          rcases Bool.eq_false_or_eq_true (isT (nth xs q)) with ht | ht
          · have HK := hid (kept_drop xs q (by rw [HX.out]; exact hqn) ht)
            have HO := hid hown
            have HBL := hid hbel
            rw [ht] at HIT
            clear ht hown hbel hkl
            go_wp2_with (go_at_call 8; refine HIT.out.mono ?_; rintro e w' ⟨rfl, hw'⟩; have hw'' := hw'.symm; subst hw'')
            go_roundw
            case rel => exact ⟨q + 1, by omega, by go_num, by rw [HK.out]; exact HO.out, HBL.out⟩
            case measure => simp [intOf]; omega
          · have HK := hid (kept_keep xs q (by rw [HX.out]; exact hqn) ht)
            have HO := hid hown
            have HBL := hid hbel
            rw [ht] at HIT
            clear ht hown hbel
            go_wp2_with (first
              | (go_at_call 8; refine HIT.out.mono ?_; rintro e w' ⟨rfl, hw'⟩; have hw'' := hw'.symm; subst hw'')
              | (at_builtin; refine wpList_append_own _ rfl _ _ 22 rfl w1.heap.size 5 i0 (.int .u8 0) 1 1 Try.underlying22 hi hz0 hz1 hz2 rfl (by decide) _ _ _ rfl (HO.out.alloc _) ⟨wr.heap.size, 0, none⟩ 1 1 [.int .u8 (nth xs q)] rfl rfl ?c1 ?c2 ?c3 ?c4 ?c5 ?_))
            case c1 => exact one_new _ _
            case c2 => intro u hu; simp at hu; subst hu; rfl
            case c3 => unfold maxLen; omega
            case c4 => omega
            case c5 => simp; omega
            intro v' w2 hown2 hgrow2 _
            have hO2 : w2.ownsRow w1.heap.size 5 1 v' (kept xs (q + 1)).length ((kept xs (q + 1)).map (Value.int .u8)) := by
              rw [HK.out, List.map_append, List.length_append]; exact hown2
            have hB2 : Below w1.heap.size w1 w2 := below_own (HBL.out.alloc hsz _) (HO.out.alloc _) hgrow2 (by simp; omega) (Nat.le_refl _)
            have HO2 := hid hO2
            have HB2 := hid hB2
            clear hown2 hgrow2 hO2 hB2
            go_wp2_with fail
            go_roundw
            case rel => exact ⟨q + 1, by omega, by go_num, HO2.out, HB2.out⟩
            case measure => simp [intOf]; omega
        · have e : q = n := by omega
          subst e
          have HO := hid hown
          have HBL := hid hbel
          have hsz := hbel.size
          have hcellr : ∀ j, j < q → wr.cell? ⟨B, j, none⟩ = some (.int .u8 (nth xs j)) := fun j hj => by rw [hbel.cell (p := ⟨B, j, none⟩) hlt]; exact hcell j hj
          have HCR := hid hcellr
          clear hown hbel hcellr hqn hcell
          go_wp2_with (at_make; refine wpList_make_own _ rfl _ _ 22 rfl wr.heap.size 5 i0 (.int .u8 0) 1 Try.underlying22 hi hz0 hz1 _ _ _ (q + 1) rfl rfl (by omega) ?b2 ?b3 (Nat.le_refl _) ?_)
          case b2 => rw [hz2]; omega
          case b3 => unfold maxLen; omega
          intro w3 hown3 hgrow3
          have HO3 := hid hown3
          have HB3 := hid ((Below.refl wr.heap.size wr).grown hgrow3 (Nat.le_refl _) (fun k h => by cases h))
          clear hown3 hgrow3
          have i1 : (p : Int) ≤ (q : Int) := by omega
          go_wp2_with (at_builtin; refine wpList_append_own _ rfl (.tmp 73) (.tmp 76) 22 rfl wr.heap.size 5 i0 (.int .u8 0) 1 1 Try.underlying22 hi hz0 hz1 hz2 rfl (by decide) _ _ _ rfl HO3.out ⟨B, 0, none⟩ p q ((xs.take p).map (Value.int .u8)) rfl ?c0 ?c1 ?c2 ?c3 ?c4 ?c5 ?_)
          case c0 => rw [List.length_map, List.length_take, HX.out]; omega
          case c1 => exact part_cells (o := 0) (fun j hj => by rw [Nat.zero_add, HB3.out.cell (p := ⟨B, j, none⟩) (Nat.lt_of_lt_of_le hlt hsz), HCR.out j (by rw [List.length_take, HX.out] at hj; omega), nth_take (p := p) (by rw [List.length_take, HX.out] at hj; omega)])
          case c2 => exact ints_one _
          case c3 => unfold maxLen; omega
          case c4 => omega
          case c5 => exact HB3.out.size
          intro v4 w4 hown4 hgrow4 _
          have hO4 : w4.ownsRow wr.heap.size 5 1 v4 p ((xs.take p).map (Value.int .u8)) := by rw [List.map_take]; exact hown4
          have hB4 : Below wr.heap.size wr w4 := below_own HB3.out HO3.out hgrow4 HB3.out.size (Nat.le_refl _)
          have HO4 := hid hO4
          have HB4 := hid hB4
          have hz4 := hB4.size
          clear hown4 hgrow4 hO4 hB4 HO3 HB3
          go_wp2_with (at_builtin; refine wpList_append_own _ rfl (.tmp 78) (.tmp 80) 22 rfl wr.heap.size 5 i0 (.int .u8 0) 1 1 Try.underlying22 hi hz0 hz1 hz2 rfl (by decide) _ _ _ rfl (HO4.out.alloc _) ⟨w4.heap.size, 0, none⟩ 1 1 [.int .u8 cc] rfl rfl ?c1 ?c2 ?c3 ?c4 ?c5 ?_)
          case c1 => exact one_new _ _
          case c2 => intro u hu; simp at hu; subst hu; rfl
          case c3 => unfold maxLen; omega
          case c4 => omega
          case c5 => simp; omega
          intro v5 w5 hown5 hgrow5 _
          have hO5 : w5.ownsRow wr.heap.size 5 1 v5 (p + 1) ((xs.take p ++ [cc]).map (Value.int .u8)) := by rw [List.map_append]; exact own_eq hown5 (by simp)
          have hB5 : Below wr.heap.size wr w5 := below_own (HB4.out.alloc hz4 _) (HO4.out.alloc _) hgrow5 (by simp; omega) (Nat.le_refl _)
          have HO5 := hid hO5
          have HB5 := hid hB5
          have hz5 := hB5.size
          clear hown5 hgrow5 hO5 hB5 HO4 HB4
          by_cases hpq : p < q
          · go_wp2_with (at_builtin; refine wpList_append_own _ rfl (.tmp 82) (.tmp 85) 22 rfl wr.heap.size 5 i0 (.int .u8 0) 1 1 Try.underlying22 hi hz0 hz1 hz2 rfl (by decide) _ _ _ rfl HO5.out ⟨B, p, none⟩ (q - p) (q - p) ((xs.drop p).map (Value.int .u8)) rfl ?c0 ?c1 ?c2 ?c3 ?c4 ?c5 ?_)
            case c0 => rw [List.length_map, List.length_drop, HX.out]; omega
            case c1 => exact part_cells (o := p) (fun j hj => by rw [List.length_drop, HX.out] at hj; rw [HB5.out.cell (p := ⟨B, p + j, none⟩) (Nat.lt_of_lt_of_le hlt hsz), HCR.out (p + j) (by omega), nth_drop])
            case c2 => exact ints_one _
            case c3 => unfold maxLen; omega
            case c4 => omega
            case c5 => exact hz5
            intro v6 w6 hown6 hgrow6 _
            have hB6 : Below wr.heap.size wr w6 := below_own HB5.out HO5.out hgrow6 hz5 (Nat.le_refl _)
            have hO6 : w6.ownsRow wr.heap.size 5 1 v6 _ ((xs.take p ++ [cc] ++ xs.drop p).map (Value.int .u8)) := own_eq hown6 (by simp)
            have hH1 := has_any (own_has (own_below HO.out hB6) (fun x hx => hb x (kept_mem hx)))
            have hH2 := has_any (own_has hO6 (ins_bytes hb hc0 hc1))
            rw [kept_has] at hH1
            rw [hasT_insert _ _ _ HT.out] at hH2
            have HH1 := hid hH1
            have HH2 := hid hH2
            have HEND := hid (HBW.out.trans ((HBL.out.trans (hB6.mono hsz)).mono (Nat.le_of_lt hlt)))
            clear hH1 hH2 hB6 hO6 hown6 hgrow6 HO5 HB5 HO HBL HCR HBW
            go_wp2_with fail
            refine HH1.out.mono ?_
            rintro e w' ⟨rfl, hw'⟩
            have hw'' := hw'.symm
            subst hw''
            go_wp2_with fail
            refine HH2.out.mono ?_
            rintro e w' ⟨rfl, hw'⟩
            have hw'' := hw'.symm
            subst hw''
            go_wp2_with fail
            go_ret
            exact ⟨ret_bool (by simp), by rw [hB]; exact HEND.out⟩
          · have e : p = q := by omega
            subst e
            go_wp2_with (at_builtin; refine wpList_append_own _ rfl (.tmp 82) (.tmp 85) 22 rfl wr.heap.size 5 i0 (.int .u8 0) 1 1 Try.underlying22 hi hz0 hz1 hz2 rfl (by decide) _ _ _ rfl HO5.out ⟨B, 0, none⟩ 0 0 [] rfl ?c0 ?c1 ?c2 ?c3 ?c4 ?c5 ?_)
            case c0 => rfl
            case c1 => intro j u hu; simp at hu
            case c2 => intro u hu; simp at hu
            case c3 => unfold maxLen; omega
            case c4 => omega
            case c5 => exact hz5
            intro v6 w6 hown6 hgrow6 _
            have hB6 : Below wr.heap.size wr w6 := below_own HB5.out HO5.out hgrow6 hz5 (Nat.le_refl _)
            have hO6 : w6.ownsRow wr.heap.size 5 1 v6 _ ((xs.take p ++ [cc] ++ xs.drop p).map (Value.int .u8)) := own_eq hown6 (by rw [List.drop_eq_nil_of_le (by rw [HX.out]; exact Nat.le_refl _)]; simp)
            have hH1 := has_any (own_has (own_below HO.out hB6) (fun x hx => hb x (kept_mem hx)))
            have hH2 := has_any (own_has hO6 (ins_bytes hb hc0 hc1))
            rw [kept_has] at hH1
            rw [hasT_insert _ _ _ HT.out] at hH2
            have HH1 := hid hH1
            have HH2 := hid hH2
            have HEND := hid (HBW.out.trans ((HBL.out.trans (hB6.mono hsz)).mono (Nat.le_of_lt hlt)))
            clear hH1 hH2 hB6 hO6 hown6 hgrow6 HO5 HB5 HO HBL HCR HBW
            go_wp2_with fail
            refine HH1.out.mono ?_
            rintro e w' ⟨rfl, hw'⟩
            have hw'' := hw'.symm
            subst hw''
            go_wp2_with fail
            refine HH2.out.mono ?_
            rintro e w' ⟨rfl, hw'⟩
            have hw'' := hw'.symm
            subst hw''
            go_wp2_with fail
            go_ret
            exact ⟨ret_bool (by simp), by rw [hB]; exact HEND.out⟩
end Go.Proofs.Qxb6603681a
