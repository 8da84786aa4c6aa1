/-
  ZZPatternCovers, and THE WALK OF THE LAW FnPatternCoversWhatItDescribes (seat b6603091a).
-/
import Derived.Test.Qxb6603091aCovers
import Derived.Lib.IndexLaws
namespace Go.Proofs.Qxb6603091a
open Go.RowKit

theorem hid {p : Prop} (h : p) : Hid p := h

/-- ZZPatternCovers hands its three arguments on. -/
theorem zz (f : Int) (t v : ByteArray) (w : World) (r : Bool)
    (h : Calls Try.prog 28 #[.agg #[.int .u8 f, .string t], .string v] w fun e w' => e = .returned (.bool r) ∧ Grown w w') :
    Calls Try.prog 19 #[.int .u8 f, .string t, .string v] w fun e w' => e = .returned (.bool r) ∧ Grown w w' := by
  have H := hid h
  clear h
  go_enter Try.func19, Try.ntmps19
  go_wp2_with (go_at_call 28; refine H.out.mono ?_; rintro e w' ⟨rfl, hg⟩)
  go_ret
  exact ⟨rfl, by assumption⟩

theorem grown_trans {a b c : World} (h : Grown a b) (k : Grown b c) : Grown a c := ⟨World.keptBut_trans h.1 k.1, fun x => (k.2.1 x).trans (h.2.1 x), Nat.le_trans h.2.2 k.2.2⟩

/-! ### the plain law -/
theorem app_list (a b : ByteArray) : (a ++ b).data.toList = a.data.toList ++ b.data.toList := by simp
theorem p1 (t y : ByteArray) : Lib.hasPrefix (t ++ y).data.toList t.data.toList = true := by
  rw [app_list, Lib.hasPrefix, List.isPrefixOf_iff_prefix]; exact List.prefix_append _ _
theorem p2 (x t : ByteArray) : Lib.hasSuffix (x ++ t).data.toList t.data.toList = true := by
  rw [app_list, Lib.hasSuffix, List.isSuffixOf_iff_suffix]; exact List.suffix_append _ _
theorem p3 (x t y : ByteArray) : Lib.contains (x ++ t ++ y).data.toList t.data.toList = true := by
  rw [app_list, app_list, Lib.contains, decide_eq_true_iff]
  rcases Lib.index_spec (x.data.toList ++ t.data.toList ++ y.data.toList) t.data.toList with ⟨_, h⟩ | ⟨i, h, _⟩
  · exfalso
    have h1 := h x.data.toList.length (by simp)
    have h2 : Lib.occAt (x.data.toList ++ t.data.toList ++ y.data.toList) t.data.toList x.data.toList.length = true := by
      rw [Lib.occAt, List.append_assoc, List.drop_left, List.isPrefixOf_iff_prefix]
      exact List.prefix_append _ _
    rw [h1] at h2
    cases h2
  · rw [h]; omega
theorem toList_eq (a : ByteArray) : a.toList = a.data.toList := Lib.toList_data a
theorem p5 (x t y : ByteArray) : ((!(x ++ t ++ y).toList.isEmpty) == decide ((0 : Int) < (x.size : Int) + (t.size : Int) + (y.size : Int))) = true := by
  have e : ((x.size : Int) + (t.size : Int) + (y.size : Int)) = ((x ++ t ++ y).data.toList.length : Int) := by
    rw [app_list, app_list, List.length_append, List.length_append]
    have e1 : x.size = x.data.toList.length := rfl
    have e2 : t.size = t.data.toList.length := rfl
    have e3 : y.size = y.data.toList.length := rfl
    omega
  rw [toList_eq, e]
  cases (x ++ t ++ y).data.toList <;> simp
theorem ret_bool {a : Bool} (h : a = true) : Ending.returned (.bool a) = .returned (.bool true) := by rw [h]
theorem p0 (t : ByteArray) : (t.toList == t.toList) = true := beq_self_eq_true _
theorem p0r (t y : ByteArray) (h : 0 < y.size) : ((t ++ y).toList == t.toList) = false := by
  rw [beq_eq_false_iff_ne, toList_eq, toList_eq, app_list]
  intro e
  have := congrArg List.length e
  have e2 : y.size = y.data.toList.length := rfl
  rw [List.length_append] at this
  omega
theorem p0l (x t : ByteArray) (h : 0 < x.size) : ((x ++ t).toList == t.toList) = false := by
  rw [beq_eq_false_iff_ne, toList_eq, toList_eq, app_list]
  intro e
  have := congrArg List.length e
  have e2 : x.size = x.data.toList.length := rfl
  rw [List.length_append] at this
  omega

/-! ### the law, a form at a time -/
set_option maxHeartbeats 1000000 in
theorem walk1 (a1 a2 a3 : ByteArray) (w1 : a1.size ≤ 4096) (w2 : a2.size ≤ 4096) (w3 : a3.size ≤ 4096) (w : World) :
    Calls Try.prog 7 #[.int .u8 1, .string a1, .string a2, .string a3] w fun e w' => e = .returned (.bool true) ∧ Grown w w' := by
  have HC := hid (zz 1 a1 (a1 ++ a3) w _ (p1 a1 a3 ▸ cov1 a1 (a1 ++ a3) w))
  go_enter Try.func7, Try.ntmps7
  go_wp2_with (go_at_call 20; go_in)
  refine HC.out.mono ?_
  rintro e w' ⟨rfl, hg⟩
  go_wp2_with fail
  go_ret
  exact ⟨rfl, hg⟩

set_option maxHeartbeats 1000000 in
theorem walk2 (a1 a2 a3 : ByteArray) (w1 : a1.size ≤ 4096) (w2 : a2.size ≤ 4096) (w3 : a3.size ≤ 4096) (w : World) :
    Calls Try.prog 7 #[.int .u8 2, .string a1, .string a2, .string a3] w fun e w' => e = .returned (.bool true) ∧ Grown w w' := by
  have HC := hid (zz 2 a1 (a2 ++ a1) w _ (p2 a2 a1 ▸ cov2 a1 (a2 ++ a1) w (by rw [ByteArray.size_append]; omega)))
  go_enter Try.func7, Try.ntmps7
  go_wp2_with (go_at_call 20; go_in)
  refine HC.out.mono ?_
  rintro e w' ⟨rfl, hg⟩
  go_wp2_with fail
  go_ret
  exact ⟨rfl, hg⟩

set_option maxHeartbeats 1000000 in
theorem walk3 (a1 a2 a3 : ByteArray) (w1 : a1.size ≤ 4096) (w2 : a2.size ≤ 4096) (w3 : a3.size ≤ 4096) (w : World) (m : Int) (hm : w.cell? ⟨0, 0, none⟩ = some (.int .i64 m)) :
    Calls Try.prog 7 #[.int .u8 3, .string a1, .string a2, .string a3] w fun e w' => e = .returned (.bool true) ∧ Grown w w' := by
  have HC := hid (zz 3 a1 (a2 ++ a1 ++ a3) w _ (p3 a2 a1 a3 ▸ cov3 a1 (a2 ++ a1 ++ a3) w m hm (by rw [ByteArray.size_append, ByteArray.size_append]; omega)))
  have hsz : (a2 ++ a1).size = a2.size + a1.size := ByteArray.size_append
  clear hm
  go_enter Try.func7, Try.ntmps7
  go_wp2_with (go_at_call 20; go_in)
  refine HC.out.mono ?_
  rintro e w' ⟨rfl, hg⟩
  go_wp2_with fail
  go_ret
  exact ⟨rfl, hg⟩

set_option maxHeartbeats 1000000 in
theorem walk4 (a1 a2 a3 : ByteArray) (w1 : a1.size ≤ 4096) (w2 : a2.size ≤ 4096) (w3 : a3.size ≤ 4096) (w : World) :
    Calls Try.prog 7 #[.int .u8 4, .string a1, .string a2, .string a3] w fun e w' => e = .returned (.bool true) ∧ Grown w w' := by
  have HC := hid (fun v w => zz 4 a1 v w _ (cov4 a1 v w))
  go_enter Try.func7, Try.ntmps7
  go_wp2_with (go_at_call 20; go_in)
  refine (HC.out _ _).mono ?_
  rintro e w' ⟨rfl, hg⟩
  go_wp2_with fail
  refine (HC.out _ _).mono ?_
  rintro e w'' ⟨rfl, hg'⟩
  go_wp2_with fail
  go_ret
  exact ⟨rfl, grown_trans hg hg'⟩

set_option maxHeartbeats 1000000 in
theorem walk5 (a1 a2 a3 : ByteArray) (w1 : a1.size ≤ 4096) (w2 : a2.size ≤ 4096) (w3 : a3.size ≤ 4096) (w : World) :
    Calls Try.prog 7 #[.int .u8 5, .string a1, .string a2, .string a3] w fun e w' => e = .returned (.bool true) ∧ Grown w w' := by
  have HC := hid (zz 5 a1 (a2 ++ a1 ++ a3) w _ (cov5 a1 (a2 ++ a1 ++ a3) w))
  have H5 := hid (p5 a2 a1 a3)
  have hsz : (a2 ++ a1).size = a2.size + a1.size := ByteArray.size_append
  go_enter Try.func7, Try.ntmps7
  go_wp2_with (go_at_call 20; go_in)
  refine HC.out.mono ?_
  rintro e w' ⟨rfl, hg⟩
  go_wp2_with fail
  go_ret
  exact ⟨ret_bool H5.out, hg⟩

set_option maxHeartbeats 1000000 in
/-- Any other form: the exact one. -/
theorem walk0 (f : Int) (a1 a2 a3 : ByteArray) (w1 : a1.size ≤ 4096) (w2 : a2.size ≤ 4096) (w3 : a3.size ≤ 4096) (w : World)
    (h1 : (f == 1) = false) (h2 : (f == 2) = false) (h3 : (f == 3) = false) (h4 : (f == 4) = false) (h5 : (f == 5) = false) :
    Calls Try.prog 7 #[.int .u8 f, .string a1, .string a2, .string a3] w fun e w' => e = .returned (.bool true) ∧ Grown w w' := by
  have HA := hid (fun w => zz f a1 a1 w _ (p0 a1 ▸ cov0 f a1 a1 w h1 h2 h3 h4 h5))
  have HR := hid (fun (h : 0 < a3.size) w => zz f a1 (a1 ++ a3) w _ (p0r a1 a3 h ▸ cov0 f a1 (a1 ++ a3) w h1 h2 h3 h4 h5))
  have HL := hid (fun (h : 0 < a2.size) w => zz f a1 (a2 ++ a1) w _ (p0l a2 a1 h ▸ cov0 f a1 (a2 ++ a1) w h1 h2 h3 h4 h5))
  by_cases g3 : 0 < a3.size
  · by_cases g2 : 0 < a2.size
    · go_enter Try.func7, Try.ntmps7
      go_wp2_with (go_at_call 20; go_in)
      refine (HA.out _).mono ?_
      rintro e wa ⟨rfl, hga⟩
      go_wp2_with fail
      refine (HR.out g3 _).mono ?_
      rintro e wb ⟨rfl, hgb⟩
      go_wp2_with fail
      refine (HL.out g2 _).mono ?_
      rintro e wc ⟨rfl, hgc⟩
      go_wp2_with fail
      go_ret
      exact ⟨rfl, grown_trans (grown_trans hga hgb) hgc⟩
    · go_enter Try.func7, Try.ntmps7
      go_wp2_with (go_at_call 20; go_in)
      refine (HA.out _).mono ?_
      rintro e wa ⟨rfl, hga⟩
      go_wp2_with fail
      refine (HR.out g3 _).mono ?_
      rintro e wb ⟨rfl, hgb⟩
      go_wp2_with fail
      go_ret
      exact ⟨rfl, grown_trans hga hgb⟩
  · by_cases g2 : 0 < a2.size
    · go_enter Try.func7, Try.ntmps7
      go_wp2_with (go_at_call 20; go_in)
      refine (HA.out _).mono ?_
      rintro e wa ⟨rfl, hga⟩
      go_wp2_with fail
      refine (HL.out g2 _).mono ?_
      rintro e wc ⟨rfl, hgc⟩
      go_wp2_with fail
      go_ret
      exact ⟨rfl, grown_trans hga hgc⟩
    · go_enter Try.func7, Try.ntmps7
      go_wp2_with (go_at_call 20; go_in)
      refine (HA.out _).mono ?_
      rintro e wa ⟨rfl, hga⟩
      go_wp2_with fail
      go_ret
      exact ⟨rfl, hga⟩

set_option maxHeartbeats 1000000 in
/-- A string beyond the bound: true at once. -/
theorem walkBig (f : Int) (a1 a2 a3 : ByteArray) (u1 : a1.size ≤ 9223372036854775807) (u2 : a2.size ≤ 9223372036854775807) (u3 : a3.size ≤ 9223372036854775807) (w : World) (h : 4096 < a1.size ∨ 4096 < a2.size ∨ 4096 < a3.size) :
    Calls Try.prog 7 #[.int .u8 f, .string a1, .string a2, .string a3] w fun e w' => e = .returned (.bool true) ∧ Grown w w' := by
  by_cases b1 : 1048576 < a1.size
  · go_enter Try.func7, Try.ntmps7
    go_wp2_with (go_at_call 20; go_in)
    go_ret
    exact ⟨rfl, Grown.refl _⟩
  by_cases b2 : 1048576 < a2.size
  · go_enter Try.func7, Try.ntmps7
    go_wp2_with (go_at_call 20; go_in)
    go_ret
    exact ⟨rfl, Grown.refl _⟩
  by_cases b3 : 1048576 < a1.size + a2.size
  · go_enter Try.func7, Try.ntmps7
    go_wp2_with (go_at_call 20; go_in)
    go_ret
    exact ⟨rfl, Grown.refl _⟩
  by_cases b4 : 1048576 < a3.size
  · go_enter Try.func7, Try.ntmps7
    go_wp2_with (go_at_call 20; go_in)
    go_ret
    exact ⟨rfl, Grown.refl _⟩
  by_cases b5 : 1048576 < a1.size + a2.size + a3.size
  · go_enter Try.func7, Try.ntmps7
    go_wp2_with (go_at_call 20; go_in)
    go_ret
    exact ⟨rfl, Grown.refl _⟩
  by_cases c1 : 4096 < a1.size
  · go_enter Try.func7, Try.ntmps7
    go_wp2_with (go_at_call 20; go_in)
    go_ret
    exact ⟨rfl, Grown.refl _⟩
  by_cases c2 : 4096 < a2.size
  · go_enter Try.func7, Try.ntmps7
    go_wp2_with (go_at_call 20; go_in)
    go_ret
    exact ⟨rfl, Grown.refl _⟩
  have c3 : 4096 < a3.size := by omega
  go_enter Try.func7, Try.ntmps7
  go_wp2_with (go_at_call 20; go_in)
  go_ret
  exact ⟨rfl, Grown.refl _⟩

/-- THE LAW's WALK. 'm': what internal/bytealg.MaxLen holds: whatever. -/
theorem law_walk (a0 : Int) (a1 a2 a3 : ByteArray) (w1 : a1.size ≤ maxLen) (w2 : a2.size ≤ maxLen) (w3 : a3.size ≤ maxLen) (w : World) (m : Int) (hm : w.cell? ⟨0, 0, none⟩ = some (.int .i64 m)) :
    Calls Try.prog 7 #[.int .u8 a0, .string a1, .string a2, .string a3] w fun e w' => e = .returned (.bool true) ∧ Grown w w' := by
  unfold maxLen at w1 w2 w3
  by_cases hb : 4096 < a1.size ∨ 4096 < a2.size ∨ 4096 < a3.size
  · exact walkBig a0 a1 a2 a3 w1 w2 w3 w hb
  have s1 : a1.size ≤ 4096 := by omega
  have s2 : a2.size ≤ 4096 := by omega
  have s3 : a3.size ≤ 4096 := by omega
  by_cases h1 : a0 = 1
  · rw [h1]; exact walk1 a1 a2 a3 s1 s2 s3 w
  by_cases h2 : a0 = 2
  · rw [h2]; exact walk2 a1 a2 a3 s1 s2 s3 w
  by_cases h3 : a0 = 3
  · rw [h3]; exact walk3 a1 a2 a3 s1 s2 s3 w m hm
  by_cases h4 : a0 = 4
  · rw [h4]; exact walk4 a1 a2 a3 s1 s2 s3 w
  by_cases h5 : a0 = 5
  · rw [h5]; exact walk5 a1 a2 a3 s1 s2 s3 w
  exact walk0 a0 a1 a2 a3 s1 s2 s3 w (beq_eq_false_iff_ne.2 h1) (beq_eq_false_iff_ne.2 h2) (beq_eq_false_iff_ne.2 h3) (beq_eq_false_iff_ne.2 h4) (beq_eq_false_iff_ne.2 h5)
end Go.Proofs.Qxb6603091a
