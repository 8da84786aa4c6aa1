/-
  THE PLAIN LAW OF SEAT b6603404a: no Go in sight. 'skip': the first place from k on whose byte fails a test; 'scan': the line-by-line search for the line that goes on.
-/
namespace Go.Proofs.Qxb6603404a.Plain

def skipF (p : Int → Bool) (f : Nat → Int) : Nat → Nat → Nat
  | 0, k => k
  | m + 1, k => if p (f k) = true then skipF p f m (k + 1) else k
/-- The first place from k on, below n, whose byte fails p; n if there is none. -/
def skip (p : Int → Bool) (f : Nat → Int) (n k : Nat) : Nat := skipF p f (n - k) k

section
variable {p : Int → Bool} {f : Nat → Int} {n : Nat}
theorem skip_out {k : Nat} (h : n ≤ k) : skip p f n k = k := by
  unfold skip; rw [show n - k = 0 by omega]; rfl
theorem skip_step {k : Nat} (h : k < n) : skip p f n k = if p (f k) = true then skip p f n (k + 1) else k := by
  unfold skip; rw [show n - k = (n - (k + 1)) + 1 by omega]; rfl
theorem skip_hit {k : Nat} (h : k < n) (hp : p (f k) = true) : skip p f n k = skip p f n (k + 1) := by rw [skip_step h, if_pos hp]
theorem skip_stop {k : Nat} (h : k < n) (hp : p (f k) = false) : skip p f n k = k := by rw [skip_step h, if_neg (by rw [hp]; decide)]
theorem skip_spec : ∀ (m k : Nat), n = k + m → k ≤ skip p f n k ∧ skip p f n k ≤ n ∧ (∀ j, k ≤ j → j < skip p f n k → p (f j) = true) ∧ (skip p f n k < n → p (f (skip p f n k)) = false) := by
  intro m
  induction m with
  | zero =>
    intro k h
    rw [skip_out (by omega)]
    exact ⟨Nat.le_refl _, by omega, fun j h1 h2 => by omega, fun h1 => by omega⟩
  | succ m ih =>
    intro k h
    by_cases hp : p (f k) = true
    · rw [skip_hit (by omega) hp]
      obtain ⟨h1, h2, h3, h4⟩ := ih (k + 1) (by omega)
      refine ⟨by omega, h2, fun j hj hj2 => ?_, h4⟩
      by_cases e : j = k
      · subst e; exact hp
      · exact h3 j (by omega) hj2
    · have hp' : p (f k) = false := by simpa using hp
      rw [skip_stop (by omega) hp']
      exact ⟨Nat.le_refl _, by omega, fun j h1 h2 => by omega, fun _ => hp'⟩
theorem skip_le {k : Nat} (h : k ≤ n) : k ≤ skip p f n k ∧ skip p f n k ≤ n := by
  obtain ⟨h1, h2, _⟩ := skip_spec (p := p) (f := f) (n := n) (n - k) k (by omega)
  exact ⟨h1, h2⟩
theorem skip_in {k j : Nat} (h : k ≤ n) (h1 : k ≤ j) (h2 : j < skip p f n k) : p (f j) = true := by
  obtain ⟨_, _, h3, _⟩ := skip_spec (p := p) (f := f) (n := n) (n - k) k (by omega)
  exact h3 j h1 h2
theorem skip_at {k : Nat} (h : k ≤ n) (h1 : skip p f n k < n) : p (f (skip p f n k)) = false := by
  obtain ⟨_, _, _, h4⟩ := skip_spec (p := p) (f := f) (n := n) (n - k) k (by omega)
  exact h4 h1
/-- The place is told by what it is. -/
theorem skip_eq {k m : Nat} (h : k ≤ m) (hm : m ≤ n) (hin : ∀ j, k ≤ j → j < m → p (f j) = true) (hat : m < n → p (f m) = false) : skip p f n k = m := by
  have hk := skip_le (p := p) (f := f) (n := n) (k := k) (by omega)
  rcases Nat.lt_trichotomy (skip p f n k) m with h1 | h1 | h1
  · have h2 := skip_at (p := p) (f := f) (n := n) (k := k) (by omega) (by omega)
    have h3 := hin _ hk.1 h1
    rw [h2] at h3; cases h3
  · exact h1
  · have h2 := skip_in (p := p) (f := f) (n := n) (k := k) (by omega) h h1
    have h3 := hat (by omega)
    rw [h3] at h2; cases h2
/-- To skip on from where a stricter test stopped. -/
theorem skip_skip {q : Int → Bool} (hq : ∀ x, q x = true → p x = true) {k : Nat} (h : k ≤ n) : skip p f n (skip q f n k) = skip p f n k := by
  have h1 := skip_le (p := q) (f := f) (n := n) h
  have h2 := skip_le (p := p) (f := f) (n := n) (k := skip q f n k) h1.2
  symm
  refine skip_eq (by omega) h2.2 (fun j hj1 hj2 => ?_) (fun h3 => skip_at h1.2 h3)
  by_cases hj : j < skip q f n k
  · exact hq _ (skip_in h hj1 hj)
  · exact skip_in h1.2 (by omega) hj2
end

def blk (x : Int) : Bool := x == 32 || x == 9
def spc (x : Int) : Bool := x == 32
def nbr (x : Int) : Bool := x != 10
theorem blk_spc (x : Int) (h : spc x = true) : blk x = true := by simp [spc] at h; simp [blk, h]
theorem blk_nbr (x : Int) (h : blk x = true) : nbr x = true := by
  simp [blk] at h; simp [nbr]; omega

/-! ### the search, line by line -/
def scanF (f : Nat → Int) (J : Nat → Nat → Bool) : Nat → Nat → Nat → Nat → Option (Nat × Nat × Nat)
  | 0, _, _, _ => none
  | m + 1, s, b, k => if blk (f k) = true then scanF f J m s b (k + 1) else if f k = 10 then scanF f J m (k + 1) (b + 1) (k + 1) else if J s k = true then none else some (k, s, b)
/-- s: the line's start; b: the empty lines passed; k: the place. J s k: the line that starts at s and whose first character stands at k is refused. -/
def scan (f : Nat → Int) (n : Nat) (J : Nat → Nat → Bool) (s b k : Nat) : Option (Nat × Nat × Nat) := scanF f J (n - k) s b k

section
variable {f : Nat → Int} {n : Nat} {J : Nat → Nat → Bool}
theorem scan_out {s b k : Nat} (h : n ≤ k) : scan f n J s b k = none := by
  unfold scan; rw [show n - k = 0 by omega]; rfl
theorem scan_step {s b k : Nat} (h : k < n) : scan f n J s b k = if blk (f k) = true then scan f n J s b (k + 1) else if f k = 10 then scan f n J (k + 1) (b + 1) (k + 1) else if J s k = true then none else some (k, s, b) := by
  unfold scan; rw [show n - k = (n - (k + 1)) + 1 by omega]; rfl
theorem scan_blanks {s b : Nat} : ∀ (m k : Nat), n = k + m → scan f n J s b k = scan f n J s b (skip blk f n k) := by
  intro m
  induction m with
  | zero => intro k h; rw [skip_out (by omega)]
  | succ m ih =>
    intro k h
    by_cases hp : blk (f k) = true
    · rw [skip_hit (by omega) hp, scan_step (by omega), if_pos hp]
      exact ih (k + 1) (by omega)
    · rw [skip_stop (by omega) (by simpa using hp)]
/-- The line at s holds nothing but blanks, and the text ends there. -/
theorem scan_end {s b : Nat} (h : s ≤ n) (hc : skip blk f n s = n) : scan f n J s b s = none := by
  rw [scan_blanks (n - s) s (by omega), hc, scan_out (Nat.le_refl _)]
/-- .. and a break ends it. -/
theorem scan_next {s b c : Nat} (h : s ≤ n) (hs : skip blk f n s = c) (hc : c < n) (h10 : f c = 10) : scan f n J s b s = scan f n J (c + 1) (b + 1) (c + 1) := by
  rw [scan_blanks (n - s) s (by omega), hs, scan_step hc, if_neg (by rw [h10]; decide), if_pos h10]
/-- .. it holds more. -/
theorem scan_line {s b c : Nat} (h : s ≤ n) (hs : skip blk f n s = c) (hc : c < n) (h10 : f c ≠ 10) : scan f n J s b s = if J s c = true then none else some (c, s, b) := by
  rw [scan_blanks (n - s) s (by omega), hs, scan_step hc, if_neg (by have := skip_at (p := blk) (f := f) h (by rw [hs]; exact hc); rw [hs] at this; rw [this]; decide), if_neg h10]
end

/-! ### a line's end, and its first character -/
section
variable {f : Nat → Int} {n : Nat}
/-- Blanks alone up to the end of the text or a break: the line ends there. -/
theorem eol_blank {s c : Nat} (h : s ≤ n) (hs : skip blk f n s = c) (hc : c = n ∨ f c = 10) : skip nbr f n s = c := by
  have h1 := skip_le (p := blk) (f := f) h
  rw [hs] at h1
  refine skip_eq h1.1 h1.2 (fun j hj1 hj2 => blk_nbr _ (skip_in h hj1 (by rw [hs]; exact hj2))) (fun hlt => ?_)
  rcases hc with hc | hc
  · omega
  · rw [hc]; decide
/-- A character: the line ends behind it. -/
theorem eol_char {s c : Nat} (h : s ≤ n) (hs : skip blk f n s = c) (hc : c < n) (h10 : f c ≠ 10) : c < skip nbr f n s := by
  have h1 := skip_le (p := blk) (f := f) h
  have h2 := skip_le (p := nbr) (f := f) h
  rw [hs] at h1
  rcases Nat.lt_or_ge c (skip nbr f n s) with h3 | h3
  · exact h3
  · exfalso
    have h4 := skip_at (p := nbr) (f := f) h (by omega)
    by_cases e : skip nbr f n s = c
    · rw [e] at h4; simp [nbr] at h4; exact h10 h4
    · have h5 := blk_nbr _ (skip_in (p := blk) (f := f) h h2.1 (by rw [hs]; omega))
      rw [h4] at h5; cases h5
/-- Three bytes that are no breaks: the line ends behind them. -/
theorem eol_three {s : Nat} (h : s + 3 ≤ n) (h0 : f s ≠ 10) (h1 : f (s + 1) ≠ 10) (h2 : f (s + 2) ≠ 10) : s + 3 ≤ skip nbr f n s := by
  have hb : ∀ j, f j ≠ 10 → nbr (f j) = true := fun j hj => by simp [nbr, hj]
  rw [skip_hit (by omega) (hb _ h0), skip_hit (by omega) (hb _ h1), skip_hit (by omega) (hb _ h2)]
  exact (skip_le (by omega)).1
end
end Go.Proofs.Qxb6603404a.Plain
