/-
  WORLDS AND LISTS (seat b6603681a): what the law's walk leans on.
-/
import Derived.Test.Qxb6603681aBase
namespace Go.Proofs.Qxb6603681a
open Go.RowKit
set_option linter.unusedVariables false

theorem own_below {w w' : World} {base : Nat} {e : TypeId} {size : Nat} {v : Value} {n : Nat} {xs : List Value} (h : w.ownsRow base e size v n xs) (hb : Below w.heap.size w w') : w'.ownsRow base e size v n xs := by
  obtain ⟨h1, h2⟩ := h
  refine ⟨h1, ?_⟩
  rcases h2 with h2 | ⟨g, cap, cur, hv, hg, hh, r⟩
  · exact .inl h2
  · have hlt : g < w.heap.size := by
      obtain ⟨hl, _⟩ := Array.getElem?_eq_some_iff.1 hh
      exact hl
    exact .inr ⟨g, cap, cur, hv, hg, by rw [hb.block g hlt]; exact hh, r⟩

theorem own_has {w : World} {base : Nat} {v : Value} {n : Nat} {ys : List Int} (h : w.ownsRow base 5 1 v n (ys.map (Value.int .u8))) (hb : ∀ x ∈ ys, 0 ≤ x ∧ x < 256) : Has w v ys := by
  obtain ⟨h1, h2⟩ := h
  rw [List.length_map, Nat.mul_one] at h1
  refine ⟨hb, ?_⟩
  rcases h2 with ⟨hv, hn⟩ | ⟨g, cap, cur, hv, hg, hh, hle, hcap, hsz, htk⟩
  · left
    refine ⟨hv, ?_⟩
    apply List.eq_nil_of_length_eq_zero
    omega
  · right
    refine ⟨g, 0, cap, by rw [hv, h1], fun i hi => ?_⟩
    have e : (cur.toList.take (n * 1))[i]? = (ys.map (Value.int .u8))[i]? := by rw [htk]
    rw [Nat.mul_one, List.getElem?_take, if_pos (by omega), List.getElem?_map, List.getElem?_eq_getElem hi] at e
    simp [World.cell?, hh]
    rw [Array.getElem?_toList] at e
    simpa [List.getD, hi] using e

theorem below_own {B : Nat} {a w w' : World} {base : Nat} {e : TypeId} {size : Nat} {v : Value} {n : Nat} {xs : List Value} (hb : Below B a w) (h : w.ownsRow base e size v n xs) (hg : w.grownBy w' v.ownBlock) (hB : B ≤ w.heap.size) (hbase : B ≤ base) : Below B a w' := by
  refine hb.grown hg hB (fun k hk => ?_)
  obtain ⟨_, ⟨rfl, _⟩ | ⟨g, cap, cur, rfl, hle, _⟩⟩ := h
  · cases hk
  · simp [Value.ownBlock] at hk
    omega

/-- What is kept of the first k numbers. -/
def kept (xs : List Int) (k : Nat) : List Int := (xs.take k).filter (fun x => !isT x)
theorem kept_zero (xs : List Int) : kept xs 0 = [] := rfl
theorem kept_le (xs : List Int) (k : Nat) : (kept xs k).length ≤ k := by
  unfold kept
  have h1 := List.length_filter_le (fun x => !isT x) (xs.take k)
  have h2 := List.length_take_le k xs
  omega
theorem kept_succ (xs : List Int) (k : Nat) (h : k < xs.length) : kept xs (k + 1) = kept xs k ++ (if isT (nth xs k) = true then [] else [nth xs k]) := by
  have e : nth xs k = xs[k] := by simp [nth, List.getD, h]
  unfold kept
  rw [List.take_add_one, List.getElem?_eq_getElem h, List.filter_append, e]
  congr 1
  cases ht : isT xs[k] <;> simp [ht]
theorem kept_drop (xs : List Int) (k : Nat) (h : k < xs.length) (ht : isT (nth xs k) = true) : kept xs (k + 1) = kept xs k := by
  rw [kept_succ xs k h, if_pos ht, List.append_nil]
theorem kept_keep (xs : List Int) (k : Nat) (h : k < xs.length) (ht : isT (nth xs k) = false) : kept xs (k + 1) = kept xs k ++ [nth xs k] := by
  rw [kept_succ xs k h, if_neg (by rw [ht]; decide)]
theorem kept_has (xs : List Int) (k : Nat) : hasT (kept xs k) = false := by
  unfold hasT kept
  rw [List.any_eq_false]
  intro x hx
  have := (List.mem_filter.1 hx).2
  simpa using this
theorem kept_mem {xs : List Int} {k : Nat} {x : Int} (h : x ∈ kept xs k) : x ∈ xs := List.mem_of_mem_take (List.mem_filter.1 h).1
theorem hasT_split (xs : List Int) (p : Nat) : hasT xs = (hasT (xs.take p) || hasT (xs.drop p)) := by
  unfold hasT
  rw [← List.any_append, List.take_append_drop]
theorem hasT_insert (a b : List Int) (c : Int) (hc : isT c = true) : hasT (a ++ [c] ++ b) = true := by
  unfold hasT
  simp [hc]
end Go.Proofs.Qxb6603681a
