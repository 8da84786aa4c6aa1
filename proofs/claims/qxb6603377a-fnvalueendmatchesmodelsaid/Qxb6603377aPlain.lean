/-
  THE PLAIN LAW OF SEAT b6603377a: no Go in sight. 'sEnd': the scan for a string's end, a state machine over the bytes (e: the byte before was a backslash that escapes).
  'bEnd': the first bracket outside strings. 'vEnd': the model's one pass.
-/
namespace Go.Proofs.Qxb6603377a.Plain

/-- The end of the string (the index just past its closing quote), or -1: read forward from index k, where the list is what is left; e: the next byte is escaped. -/
def sEnd (e : Bool) (k : Nat) : List Int → Int
  | [] => -1
  | b :: l => if e = true then sEnd false (k + 1) l else if b = 92 then sEnd true (k + 1) l else if b = 34 then (k : Int) + 1 else sEnd false (k + 1) l

/-- The escape state behind the bytes p, begun at e. -/
def par (e : Bool) : List Int → Bool
  | [] => e
  | b :: p => par (if e = true then false else decide (b = 92)) p

theorem par_snoc (p : List Int) (b : Int) : ∀ e, par e (p ++ [b]) = if par e p = true then false else decide (b = 92) := by
  induction p with
  | nil => intro e; rfl
  | cons a p ih => intro e; exact ih _

/-- Bytes without a quote are passed over. -/
theorem sEnd_pass (p r : List Int) : ∀ (e : Bool) (k : Nat), (∀ x ∈ p, x ≠ 34) → sEnd e k (p ++ r) = sEnd (par e p) (k + p.length) r := by
  induction p with
  | nil => intro e k _; rfl
  | cons a p ih =>
    intro e k h
    have ha : a ≠ 34 := h a (List.mem_cons_self ..)
    have hp : ∀ x ∈ p, x ≠ 34 := fun x hx => h x (List.mem_cons_of_mem _ hx)
    have ek : k + (a :: p).length = k + 1 + p.length := by simp; omega
    rw [List.cons_append, ek]
    cases e with
    | true => exact ih false (k + 1) hp
    | false =>
      by_cases h92 : a = 92
      · subst h92; exact ih true (k + 1) hp
      · have e1 : sEnd false k (a :: (p ++ r)) = sEnd false (k + 1) (p ++ r) := by simp [sEnd, h92, ha]
        have e2 : par false (a :: p) = par false p := by simp [par, h92]
        rw [e1, e2]; exact ih false (k + 1) hp

theorem sEnd_none (p : List Int) (e : Bool) (k : Nat) (h : ∀ x ∈ p, x ≠ 34) : sEnd e k p = -1 := by
  have := sEnd_pass p [] e k h
  rw [List.append_nil] at this
  rw [this]; rfl

/-- The escape state behind p is the parity of the backslashes that p ends in. 'c' backslashes, and the byte before them (if p has one) is none. -/
theorem par_tail (q : List Int) : ∀ (c : Nat), (q = [] ∨ ∃ q' b, q = q' ++ [b] ∧ b ≠ 92) → par false (q ++ List.replicate c 92) = decide (c % 2 = 1) := by
  intro c
  induction c with
  | zero =>
    rintro (rfl | ⟨q', b, rfl, hb⟩)
    · rfl
    · simp only [List.replicate_zero, List.append_nil]
      rw [par_snoc]
      simp [hb]
  | succ c ih =>
    intro h
    rw [List.replicate_succ', ← List.append_assoc, par_snoc, ih h]
    by_cases hc : c % 2 = 1
    · have : (c + 1) % 2 ≠ 1 := by omega
      simp [hc, this]
    · have : (c + 1) % 2 = 1 := by omega
      simp [hc, this]

/-- The tests of one byte. -/
theorem sEnd_cons_false (k : Nat) (b : Int) (l : List Int) : sEnd false k (b :: l) = if b = 92 then sEnd true (k + 1) l else if b = 34 then (k : Int) + 1 else sEnd false (k + 1) l := by
  simp [sEnd]
theorem sEnd_cons_true (k : Nat) (b : Int) (l : List Int) : sEnd true k (b :: l) = sEnd false (k + 1) l := by simp [sEnd]
theorem sEnd_nil (e : Bool) (k : Nat) : sEnd e k [] = -1 := rfl

/-- An answer that is not -1 lies past k. -/
theorem sEnd_ge (l : List Int) : ∀ (e : Bool) (k : Nat), sEnd e k l = -1 ∨ ((k : Int) + 1 ≤ sEnd e k l ∧ sEnd e k l ≤ k + l.length) := by
  induction l with
  | nil => intro e k; exact .inl rfl
  | cons b l ih =>
    intro e k
    have h1 : ∀ e', sEnd e' (k + 1) l = -1 ∨ ((k : Int) + 1 ≤ sEnd e' (k + 1) l ∧ sEnd e' (k + 1) l ≤ k + (b :: l).length) := by
      intro e'
      rcases ih e' (k + 1) with h | ⟨h, h'⟩
      · exact .inl h
      · refine .inr ⟨by omega, ?_⟩
        simp only [List.length_cons]
        omega
    unfold sEnd
    split
    · exact h1 _
    · split
      · exact h1 _
      · split
        · refine .inr ⟨by omega, ?_⟩
          simp only [List.length_cons]; omega
        · exact h1 _

/-- The scan at a place of the whole row. -/
def strEnd (xs : List Int) (e : Bool) (k : Nat) : Int := sEnd e k (xs.drop k)

theorem drop_cons (xs : List Int) (k : Nat) (h : k < xs.length) : xs.drop k = xs.getD k 0 :: xs.drop (k + 1) := by
  rw [List.drop_eq_getElem_cons h]
  simp [List.getD, h]

theorem strEnd_out (xs : List Int) (e : Bool) (k : Nat) (h : xs.length ≤ k) : strEnd xs e k = -1 := by
  unfold strEnd; rw [List.drop_eq_nil_of_le h]; rfl
theorem strEnd_esc (xs : List Int) (k : Nat) (h : k < xs.length) : strEnd xs true k = strEnd xs false (k + 1) := by
  unfold strEnd; rw [drop_cons xs k h, sEnd_cons_true]
theorem strEnd_esc' (xs : List Int) (k : Nat) : strEnd xs true k = strEnd xs false (k + 1) := by
  by_cases h : k < xs.length
  · exact strEnd_esc xs k h
  · rw [strEnd_out _ _ _ (by omega), strEnd_out _ _ _ (by omega)]
theorem strEnd_back (xs : List Int) (k : Nat) (h : k < xs.length) (hb : xs.getD k 0 = 92) : strEnd xs false k = strEnd xs true (k + 1) := by
  unfold strEnd; rw [drop_cons xs k h, sEnd_cons_false, if_pos hb]
theorem strEnd_quote (xs : List Int) (k : Nat) (h : k < xs.length) (hb : xs.getD k 0 = 34) : strEnd xs false k = (k : Int) + 1 := by
  unfold strEnd; rw [drop_cons xs k h, sEnd_cons_false, if_neg (by omega), if_pos hb]
theorem strEnd_else (xs : List Int) (k : Nat) (h : k < xs.length) (h1 : xs.getD k 0 ≠ 92) (h2 : xs.getD k 0 ≠ 34) : strEnd xs false k = strEnd xs false (k + 1) := by
  unfold strEnd; rw [drop_cons xs k h, sEnd_cons_false, if_neg h1, if_neg h2]
theorem strEnd_ge (xs : List Int) (e : Bool) (k : Nat) : strEnd xs e k = -1 ∨ ((k : Int) + 1 ≤ strEnd xs e k ∧ strEnd xs e k ≤ xs.length) := by
  by_cases h : k ≤ xs.length
  · rcases sEnd_ge (xs.drop k) e k with h' | ⟨h1, h2⟩
    · exact .inl h'
    · refine .inr ⟨h1, ?_⟩
      rw [List.length_drop] at h2
      show sEnd e k (xs.drop k) ≤ _
      omega
  · exact .inl (strEnd_out _ _ _ (by omega))
/-- No quote from k on: no end. -/
theorem strEnd_noQuote (xs : List Int) (e : Bool) (k : Nat) (h : ∀ j, k ≤ j → j < xs.length → xs.getD j 0 ≠ 34) : strEnd xs e k = -1 := by
  unfold strEnd
  refine sEnd_none _ _ _ fun x hx => ?_
  obtain ⟨j, hj, rfl⟩ := List.getElem_of_mem hx
  rw [List.length_drop] at hj
  have := h (k + j) (by omega) (by omega)
  rw [List.getElem_drop]
  simpa [List.getD, show k + j < xs.length by omega] using this

/-- THE STEP OF stringEnd: from i to the next quote at i + q, with c backslashes before it, the byte before them (at i - 1 at the least) being none. -/
theorem strEnd_next (xs : List Int) (i q c : Nat) (hq : i + q < xs.length) (hquote : xs.getD (i + q) 0 = 34) (hno : ∀ j, i ≤ j → j < i + q → xs.getD j 0 ≠ 34)
    (hcq : c ≤ q) (hback : ∀ j, i + q - c ≤ j → j < i + q → xs.getD j 0 = 92) (hstop : c < q → xs.getD (i + q - 1 - c) 0 ≠ 92) :
    strEnd xs false i = if c % 2 = 0 then ((i + q : Nat) : Int) + 1 else strEnd xs false (i + q + 1) := by
  have hsplit : xs.drop i = (xs.drop i).take q ++ xs.drop (i + q) := by
    have := (List.take_append_drop q (xs.drop i)).symm
    rwa [List.drop_drop] at this
  have hlen : ((xs.drop i).take q).length = q := by simp; omega
  have hget : ∀ j, j < q → ((xs.drop i).take q)[j]? = some (xs.getD (i + j) 0) := by
    intro j hj
    rw [List.getElem?_take, if_pos hj, List.getElem?_drop]
    simp [List.getD, show i + j < xs.length by omega]
  have hpass : strEnd xs false i = sEnd (par false ((xs.drop i).take q)) (i + q) (xs.drop (i + q)) := by
    unfold strEnd
    rw [hsplit, sEnd_pass, hlen]
    · congr 2
      rw [← hsplit]
    · intro x hx
      obtain ⟨j, hj⟩ := List.mem_iff_getElem?.1 hx
      by_cases hjq : j < q
      · rw [hget j hjq] at hj
        have := hno (i + j) (by omega) (by omega)
        simp only [Option.some.injEq] at hj
        omega
      · rw [List.getElem?_eq_none (by omega)] at hj
        cases hj
  -- the tail of the passed bytes
  have htail : (xs.drop i).take q = ((xs.drop i).take (q - c)) ++ List.replicate c 92 := by
    apply List.ext_getElem?
    intro j
    by_cases hj : j < q - c
    · rw [List.getElem?_append_left (by simp; omega), hget j (by omega), List.getElem?_take, if_pos hj, List.getElem?_drop]
      simp [List.getD, show i + j < xs.length by omega]
    · by_cases hjq : j < q
      · have hl2 : ((xs.drop i).take (q - c)).length = q - c := by simp; omega
        rw [hget j hjq, List.getElem?_append_right (by omega), hback (i + j) (by omega) (by omega), hl2, List.getElem?_replicate, if_pos (by omega)]
      · have hl2 : ((xs.drop i).take (q - c)).length = q - c := by simp; omega
        rw [List.getElem?_eq_none (by omega), List.getElem?_eq_none]
        rw [List.length_append, hl2, List.length_replicate]; omega
  have hpar : par false ((xs.drop i).take q) = decide (c % 2 = 1) := by
    rw [htail]
    apply par_tail
    by_cases hz : q - c = 0
    · left; simp [hz]
    · right
      refine ⟨(xs.drop i).take (q - c - 1), xs.getD (i + q - 1 - c) 0, ?_, hstop (by omega)⟩
      have e1 : q - c = (q - c - 1) + 1 := by omega
      conv => lhs; rw [e1]
      rw [List.take_add_one, List.getElem?_drop]
      have e2 : i + (q - c - 1) = i + q - 1 - c := by omega
      rw [e2]
      simp [List.getD, show i + q - 1 - c < xs.length by omega]
  rw [hpass, hpar, drop_cons xs (i + q) hq, hquote]
  by_cases hc : c % 2 = 0
  · rw [if_pos hc]
    have : decide (c % 2 = 1) = false := by simp; omega
    rw [this, sEnd_cons_false, if_neg (by decide), if_pos rfl]
  · rw [if_neg hc]
    have : decide (c % 2 = 1) = true := by simp; omega
    rw [this, sEnd_cons_true]
    rfl

/-! ### brackets -/

/-- Is it a bracket or brace? -/
def opens (b : Int) : Bool := decide (b = 91) || decide (b = 123)
def shuts (b : Int) : Bool := decide (b = 93) || decide (b = 125)

/-- The first bracket outside strings, or -1. 's': inside a string; 'e': the next byte is escaped. -/
def bEnd (s e : Bool) (k : Nat) : List Int → Int
  | [] => -1
  | b :: l =>
    if s = true then (if e = true then bEnd true false (k + 1) l else if b = 92 then bEnd true true (k + 1) l else if b = 34 then bEnd false false (k + 1) l else bEnd true false (k + 1) l)
    else if b = 34 then bEnd true false (k + 1) l else if opens b = true ∨ shuts b = true then (k : Int) else bEnd false false (k + 1) l

/-- The model's one pass. -/
def vEnd (d : Int) (s e : Bool) (k : Nat) : List Int → Int
  | [] => -1
  | b :: l =>
    if s = true then (if e = true then vEnd d true false (k + 1) l else if b = 92 then vEnd d true true (k + 1) l else if b = 34 then (if d = 0 then (k : Int) + 1 else vEnd d false e (k + 1) l) else vEnd d true e (k + 1) l)
    else if b = 34 then vEnd d true e (k + 1) l else if opens b = true then vEnd (d + 1) false e (k + 1) l else if shuts b = true then (if d - 1 = 0 then (k : Int) + 1 else vEnd (d - 1) false e (k + 1) l) else vEnd d false e (k + 1) l

def brk (xs : List Int) (s e : Bool) (k : Nat) : Int := bEnd s e k (xs.drop k)
def val (xs : List Int) (d : Int) (s e : Bool) (k : Nat) : Int := vEnd d s e k (xs.drop k)

theorem brk_out (xs : List Int) (s e : Bool) (k : Nat) (h : xs.length ≤ k) : brk xs s e k = -1 := by
  unfold brk; rw [List.drop_eq_nil_of_le h]; rfl
theorem val_out (xs : List Int) (d : Int) (s e : Bool) (k : Nat) (h : xs.length ≤ k) : val xs d s e k = -1 := by
  unfold val; rw [List.drop_eq_nil_of_le h]; rfl

theorem val_step (xs : List Int) (d : Int) (s e : Bool) (k : Nat) (h : k < xs.length) : val xs d s e k =
    if s = true then (if e = true then val xs d true false (k + 1) else if xs.getD k 0 = 92 then val xs d true true (k + 1) else if xs.getD k 0 = 34 then (if d = 0 then (k : Int) + 1 else val xs d false e (k + 1)) else val xs d true e (k + 1))
    else if xs.getD k 0 = 34 then val xs d true e (k + 1) else if opens (xs.getD k 0) = true then val xs (d + 1) false e (k + 1) else if shuts (xs.getD k 0) = true then (if d - 1 = 0 then (k : Int) + 1 else val xs (d - 1) false e (k + 1)) else val xs d false e (k + 1) := by
  unfold val; rw [drop_cons xs k h]; rfl
theorem brk_step (xs : List Int) (s e : Bool) (k : Nat) (h : k < xs.length) : brk xs s e k =
    if s = true then (if e = true then brk xs true false (k + 1) else if xs.getD k 0 = 92 then brk xs true true (k + 1) else if xs.getD k 0 = 34 then brk xs false false (k + 1) else brk xs true false (k + 1))
    else if xs.getD k 0 = 34 then brk xs true false (k + 1) else if opens (xs.getD k 0) = true ∨ shuts (xs.getD k 0) = true then (k : Int) else brk xs false false (k + 1) := by
  unfold brk; rw [drop_cons xs k h]; rfl

/-- Inside a string the search goes on where the string ends. -/
theorem brk_str (xs : List Int) : ∀ (n k : Nat) (e : Bool), xs.length ≤ k + n → brk xs true e k = if strEnd xs e k < 0 then -1 else brk xs false false (strEnd xs e k).toNat := by
  intro n
  induction n with
  | zero => intro k e h; rw [brk_out _ _ _ _ (by omega), strEnd_out _ _ _ (by omega)]; rfl
  | succ n ih =>
    intro k e h
    by_cases hk : k < xs.length
    · rw [brk_step _ _ _ _ hk]
      simp only [if_true]
      cases e with
      | true =>
        simp only [if_true]
        rw [strEnd_esc _ _ hk]
        exact ih (k + 1) false (by omega)
      | false =>
        simp only [Bool.false_eq_true, if_false]
        by_cases h1 : xs.getD k 0 = 92
        · rw [if_pos h1, strEnd_back _ _ hk h1]; exact ih (k + 1) true (by omega)
        · by_cases h2 : xs.getD k 0 = 34
          · rw [if_neg h1, if_pos h2, strEnd_quote _ _ hk h2, if_neg (by omega)]
            congr 1
          · rw [if_neg h1, if_neg h2, strEnd_else _ _ hk h1 h2]; exact ih (k + 1) false (by omega)
    · rw [brk_out _ _ _ _ (by omega), strEnd_out _ _ _ (by omega)]; rfl

/-- The model from inside a string, at a depth that is not 0: on where the string ends. -/
theorem val_str (xs : List Int) (d : Int) (hd : d ≠ 0) : ∀ (n k : Nat) (e : Bool), xs.length ≤ k + n → val xs d true e k = if strEnd xs e k < 0 then -1 else val xs d false false (strEnd xs e k).toNat := by
  intro n
  induction n with
  | zero => intro k e h; rw [val_out _ _ _ _ _ (by omega), strEnd_out _ _ _ (by omega)]; rfl
  | succ n ih =>
    intro k e h
    by_cases hk : k < xs.length
    · rw [val_step _ _ _ _ _ hk]
      simp only [if_true]
      cases e with
      | true =>
        simp only [if_true]
        rw [strEnd_esc _ _ hk]
        exact ih (k + 1) false (by omega)
      | false =>
        simp only [Bool.false_eq_true, if_false]
        by_cases h1 : xs.getD k 0 = 92
        · rw [if_pos h1, strEnd_back _ _ hk h1]; exact ih (k + 1) true (by omega)
        · by_cases h2 : xs.getD k 0 = 34
          · rw [if_neg h1, if_pos h2, if_neg hd, strEnd_quote _ _ hk h2, if_neg (by omega)]
            congr 1
          · rw [if_neg h1, if_neg h2, strEnd_else _ _ hk h1 h2]; exact ih (k + 1) false (by omega)
    · rw [val_out _ _ _ _ _ (by omega), strEnd_out _ _ _ (by omega)]; rfl

/-- The model from inside a string at depth 0: where the string ends. -/
theorem val_str0 (xs : List Int) : ∀ (n k : Nat) (e : Bool), xs.length ≤ k + n → val xs 0 true e k = strEnd xs e k := by
  intro n
  induction n with
  | zero => intro k e h; rw [val_out _ _ _ _ _ (by omega), strEnd_out _ _ _ (by omega)]
  | succ n ih =>
    intro k e h
    by_cases hk : k < xs.length
    · rw [val_step _ _ _ _ _ hk]
      simp only [if_true]
      cases e with
      | true =>
        simp only [if_true]
        rw [strEnd_esc _ _ hk]
        exact ih (k + 1) false (by omega)
      | false =>
        simp only [Bool.false_eq_true, if_false]
        by_cases h1 : xs.getD k 0 = 92
        · rw [if_pos h1, strEnd_back _ _ hk h1]; exact ih (k + 1) true (by omega)
        · by_cases h2 : xs.getD k 0 = 34
          · rw [if_neg h1, if_pos h2, strEnd_quote _ _ hk h2]
          · rw [if_neg h1, if_neg h2, strEnd_else _ _ hk h1 h2]; exact ih (k + 1) false (by omega)
    · rw [val_out _ _ _ _ _ (by omega), strEnd_out _ _ _ (by omega)]

theorem opens_or {b : Int} : opens b = true ↔ b = 91 ∨ b = 123 := by simp [opens]
theorem shuts_or {b : Int} : shuts b = true ↔ b = 93 ∨ b = 125 := by simp [shuts]

/-- What the model does behind the next bracket (j: its index, or -1). -/
def onward (xs : List Int) (d j : Int) : Int :=
  if j < 0 then -1 else if opens (xs.getD j.toNat 0) = true then val xs (d + 1) false false (j.toNat + 1) else if d - 1 = 0 then j + 1 else val xs (d - 1) false false (j.toNat + 1)

/-- THE STEP OF valueEnd: the model, outside strings and at a depth that is not 0, goes to the next bracket. -/
theorem val_brk (xs : List Int) (d : Int) (hd : d ≠ 0) : ∀ (n k : Nat), xs.length ≤ k + n → val xs d false false k = onward xs d (brk xs false false k) := by
  intro n
  induction n using Nat.strongRecOn with
  | _ n ih =>
    intro k h
    by_cases hk : k < xs.length
    · rw [val_step _ _ _ _ _ hk, brk_step _ _ _ _ hk]
      simp only [Bool.false_eq_true, if_false]
      by_cases h1 : xs.getD k 0 = 34
      · rw [if_pos h1, if_pos h1, val_str xs d hd xs.length (k + 1) false (by omega), brk_str xs xs.length (k + 1) false (by omega)]
        rcases strEnd_ge xs false (k + 1) with h2 | ⟨h2, _⟩
        · rw [h2]; rfl
        · rw [if_neg (by omega), if_neg (by omega)]
          exact ih (xs.length - (strEnd xs false (k + 1)).toNat) (by omega) _ (by omega)
      · rw [if_neg h1, if_neg h1]
        by_cases h2 : opens (xs.getD k 0) = true
        · rw [if_pos h2, if_pos (.inl h2)]
          unfold onward
          rw [if_neg (by omega), Int.toNat_natCast, if_pos h2]
        · rw [if_neg h2]
          by_cases h3 : shuts (xs.getD k 0) = true
          · have h4 : opens (xs.getD k 0) = true ∨ shuts (xs.getD k 0) = true := .inr h3
            rw [if_pos h3, if_pos h4]
            unfold onward
            rw [if_neg (show ¬ (k : Int) < 0 by omega), Int.toNat_natCast, if_neg h2]
          · have h4 : ¬ (opens (xs.getD k 0) = true ∨ shuts (xs.getD k 0) = true) := by rintro (h | h); exact h2 h; exact h3 h
            rw [if_neg h3, if_neg h4]
            exact ih (n - 1) (by omega) (k + 1) (by omega)
    · rw [val_out _ _ _ _ _ (by omega), brk_out _ _ _ _ (by omega)]; rfl

/-- An answer of the search that is not -1 is a bracket's index. -/
theorem brk_ge (xs : List Int) : ∀ (n k : Nat) (s e : Bool), xs.length ≤ k + n → brk xs s e k = -1 ∨ ((k : Int) ≤ brk xs s e k ∧ brk xs s e k < xs.length ∧ (opens (xs.getD (brk xs s e k).toNat 0) = true ∨ shuts (xs.getD (brk xs s e k).toNat 0) = true)) := by
  intro n
  induction n with
  | zero => intro k s e h; exact .inl (brk_out _ _ _ _ (by omega))
  | succ n ih =>
    intro k s e h
    by_cases hk : k < xs.length
    · have h1 : ∀ s' e', brk xs s' e' (k + 1) = -1 ∨ ((k : Int) ≤ brk xs s' e' (k + 1) ∧ brk xs s' e' (k + 1) < xs.length ∧ (opens (xs.getD (brk xs s' e' (k + 1)).toNat 0) = true ∨ shuts (xs.getD (brk xs s' e' (k + 1)).toNat 0) = true)) := by
        intro s' e'
        rcases ih (k + 1) s' e' (by omega) with h' | ⟨h', h'', h'''⟩
        · exact .inl h'
        · exact .inr ⟨by omega, h'', h'''⟩
      rw [brk_step _ _ _ _ hk]
      split
      · split
        · exact h1 _ _
        · split
          · exact h1 _ _
          · split
            · exact h1 _ _
            · exact h1 _ _
      · split
        · exact h1 _ _
        · split
          · rename_i h2
            refine .inr ⟨Int.le_refl _, by omega, ?_⟩
            rw [Int.toNat_natCast]; exact h2
          · exact h1 _ _
    · exact .inl (brk_out _ _ _ _ (by omega))

/-! ### scalars -/
def delim (b : Int) : Bool := decide (b = 44) || decide (b = 93) || decide (b = 125) || decide (b = 32) || decide (b = 9) || decide (b = 10) || decide (b = 13)
def dEnd (k : Nat) : List Int → Int
  | [] => k
  | b :: l => if delim b = true then (k : Int) else dEnd (k + 1) l
def sca (xs : List Int) (k : Nat) : Int := dEnd k (xs.drop k)
theorem sca_out (xs : List Int) (k : Nat) (h : xs.length = k) : sca xs k = k := by
  unfold sca; rw [List.drop_eq_nil_of_le (by omega)]; rfl
theorem sca_hit (xs : List Int) (k : Nat) (h : k < xs.length) (hd : delim (xs.getD k 0) = true) : sca xs k = k := by
  unfold sca; rw [drop_cons xs k h, dEnd, if_pos hd]
theorem sca_miss (xs : List Int) (k : Nat) (h : k < xs.length) (hd : delim (xs.getD k 0) = false) : sca xs k = sca xs (k + 1) := by
  unfold sca; rw [drop_cons xs k h, dEnd, if_neg (by rw [hd]; decide)]

/-- What valueEnd answers at i. -/
def valueEnd (xs : List Int) (i : Nat) : Int :=
  if xs.getD i 0 = 34 then strEnd xs false (i + 1) else if opens (xs.getD i 0) = true then val xs 1 false false (i + 1) else sca xs i

/-- The model at a quote: its one pass is the string's scan. -/
theorem val_quote (xs : List Int) (i : Nat) (h : i < xs.length) (hb : xs.getD i 0 = 34) : val xs 0 false false i = strEnd xs false (i + 1) := by
  rw [val_step _ _ _ _ _ h]
  simp only [Bool.false_eq_true, if_false]
  rw [if_pos hb, val_str0 xs xs.length (i + 1) false (by omega)]
theorem val_open (xs : List Int) (i : Nat) (h : i < xs.length) (hb : opens (xs.getD i 0) = true) : val xs 0 false false i = val xs 1 false false (i + 1) := by
  have h1 : xs.getD i 0 ≠ 34 := by rw [opens_or] at hb; omega
  rw [val_step _ _ _ _ _ h]
  simp only [Bool.false_eq_true, if_false]
  rw [if_neg h1, if_pos hb]
  rfl
end Go.Proofs.Qxb6603377a.Plain
