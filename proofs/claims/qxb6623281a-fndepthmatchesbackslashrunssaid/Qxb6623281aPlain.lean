/-
  depth, as a plain function on bytes: no Go in sight.
-/
namespace Go.Proofs.Qxb6623281a

/-- One byte: what is open; whether inside a string; whether escaped. -/
def dstep (c : Int) (s : Int × Bool × Bool) : Int × Bool × Bool :=
  if s.2.1 = true then (s.1, s.2.2 || c != 34, !s.2.2 && c == 92)
  else if c = 34 then (s.1, true, s.2.2)
  else if c = 91 ∨ c = 123 then (s.1 + 1, false, s.2.2)
  else if c = 93 ∨ c = 125 then (s.1 - 1, false, s.2.2)
  else (s.1, false, s.2.2)

/-- From state s on, over the first k bytes. -/
def dgo (f : Nat → Int) (s : Int × Bool × Bool) : Nat → Int × Bool × Bool
  | 0 => s
  | k + 1 => dstep (f k) (dgo f s k)

def dst (f : Nat → Int) (k : Nat) : Int × Bool × Bool := dgo f (0, false, false) k

theorem dst_succ (f : Nat → Int) (k : Nat) : dst f (k + 1) = dstep (f k) (dst f k) := rfl

theorem dstep_bound (c : Int) (s : Int × Bool × Bool) : s.1 - 1 ≤ (dstep c s).1 ∧ (dstep c s).1 ≤ s.1 + 1 := by
  unfold dstep
  split
  · exact ⟨by simp; omega, by simp; omega⟩
  · split
    · exact ⟨by simp; omega, by simp; omega⟩
    · split
      · exact ⟨by simp; omega, by simp⟩
      · split
        · exact ⟨by simp, by simp; omega⟩
        · exact ⟨by simp; omega, by simp; omega⟩

theorem dst_bound (f : Nat → Int) : ∀ k : Nat, -(k : Int) ≤ (dst f k).1 ∧ (dst f k).1 ≤ (k : Int) := by
  intro k
  induction k with
  | zero => simp [dst, dgo]
  | succ k ih =>
    rw [dst_succ]
    have := dstep_bound (f k) (dst f k)
    omega

theorem step_in_esc (o c : Int) : dstep c (o, true, true) = (o, true, false) := by simp [dstep]
theorem step_in_quote (o : Int) : dstep 34 (o, true, false) = (o, false, false) := by simp [dstep]
theorem step_in_back (o : Int) : dstep 92 (o, true, false) = (o, true, true) := by simp [dstep]
theorem step_in_other (o c : Int) (h1 : c ≠ 34) (h2 : c ≠ 92) : dstep c (o, true, false) = (o, true, false) := by simp [dstep, h1, h2]
theorem step_out_quote (o : Int) (e : Bool) : dstep 34 (o, false, e) = (o, true, e) := by simp [dstep]
theorem step_out_open (o c : Int) (e : Bool) (h : c = 91 ∨ c = 123) : dstep c (o, false, e) = (o + 1, false, e) := by
  rcases h with rfl | rfl <;> simp [dstep]
theorem step_out_close (o c : Int) (e : Bool) (h : c = 93 ∨ c = 125) : dstep c (o, false, e) = (o - 1, false, e) := by
  rcases h with rfl | rfl <;> simp [dstep]
theorem step_out_other (o c : Int) (e : Bool) (h0 : c ≠ 34) (h1 : c ≠ 91) (h2 : c ≠ 123) (h3 : c ≠ 93) (h4 : c ≠ 125) : dstep c (o, false, e) = (o, false, e) := by
  simp [dstep, h0, h1, h2, h3, h4]

/-- Over bytes without a quote: what opens less what closes. -/
theorem dst_free (f : Nat → Int) : ∀ k : Nat, (∀ j, j < k → f j ≠ 34) → ∃ o, dst f k = (o, false, false) := by
  intro k
  induction k with
  | zero => intro _; exact ⟨0, rfl⟩
  | succ k ih =>
    intro h
    obtain ⟨o, ho⟩ := ih (fun j hj => h j (by omega))
    rw [dst_succ, ho]
    have h34 := h k (by omega)
    by_cases h1 : f k = 91 ∨ f k = 123
    · exact ⟨_, step_out_open o _ false h1⟩
    · by_cases h2 : f k = 93 ∨ f k = 125
      · exact ⟨_, step_out_close o _ false h2⟩
      · exact ⟨_, step_out_other o _ false h34 (fun h => h1 (.inl h)) (fun h => h1 (.inr h)) (fun h => h2 (.inl h)) (fun h => h2 (.inr h))⟩

/-- What is open adds up from whatever it was at the start. -/
theorem dstep_shift (c a o : Int) (i e : Bool) : dstep c (a + o, i, e) = (a + (dstep c (o, i, e)).1, (dstep c (o, i, e)).2) := by
  unfold dstep
  cases i
  · simp only [Bool.false_eq_true, if_false]
    split
    · rfl
    · split
      · exact Prod.ext (by simp; omega) rfl
      · split
        · exact Prod.ext (by simp; omega) rfl
        · rfl
  · simp

theorem dgo_shift (f : Nat → Int) (a : Int) : ∀ k, dgo f (a, false, false) k = (a + (dst f k).1, (dst f k).2) := by
  intro k
  induction k with
  | zero => simp [dst, dgo]
  | succ k ih =>
    show dstep (f k) (dgo f (a, false, false) k) = _
    rw [ih, dst_succ]
    exact dstep_shift (f k) a (dst f k).1 (dst f k).2.1 (dst f k).2.2

/-- Two rows of bytes laid end to end. -/
def cat (f g : Nat → Int) (n : Nat) (j : Nat) : Int := if j < n then f j else g (j - n)

theorem dst_cat_left (f g : Nat → Int) (n : Nat) : ∀ k, k ≤ n → dst (cat f g n) k = dst f k := by
  intro k
  induction k with
  | zero => intro _; rfl
  | succ k ih =>
    intro h
    rw [dst_succ, dst_succ, ih (by omega)]
    simp [cat, show k < n by omega]

theorem dst_cat (f g : Nat → Int) (n : Nat) : ∀ m, dst (cat f g n) (n + m) = dgo g (dst f n) m := by
  intro m
  induction m with
  | zero => exact dst_cat_left f g n n (Nat.le_refl _)
  | succ m ih =>
    show dst (cat f g n) (n + m + 1) = dstep (g m) (dgo g (dst f n) m)
    rw [dst_succ, ih]
    have e : cat f g n (n + m) = g m := by
      unfold cat
      rw [if_neg (by omega), Nat.add_sub_cancel_left]
    rw [e]

/-- The law: behind a first part without a quote the depths add up. -/
theorem dst_split (f g : Nat → Int) (n m : Nat) (h : ∀ j, j < n → f j ≠ 34) : (dst (cat f g n) (n + m)).1 = (dst f n).1 + (dst g m).1 := by
  obtain ⟨o, ho⟩ := dst_free f n h
  rw [dst_cat, ho, dgo_shift]

/-- How many of the first k open, how many close. -/
def opens (f : Nat → Int) : Nat → Nat
  | 0 => 0
  | k + 1 => opens f k + if f k = 91 ∨ f k = 123 then 1 else 0
def closes (f : Nat → Int) : Nat → Nat
  | 0 => 0
  | k + 1 => closes f k + if f k = 93 ∨ f k = 125 then 1 else 0

theorem opens_succ (f : Nat → Int) (k : Nat) : opens f (k + 1) = opens f k + if f k = 91 ∨ f k = 123 then 1 else 0 := rfl
theorem closes_succ (f : Nat → Int) (k : Nat) : closes f (k + 1) = closes f k + if f k = 93 ∨ f k = 125 then 1 else 0 := rfl
theorem opens_le (f : Nat → Int) : ∀ k, opens f k ≤ k := by
  intro k
  induction k with
  | zero => simp [opens]
  | succ k ih => unfold opens; split <;> omega
theorem closes_le (f : Nat → Int) : ∀ k, closes f k ≤ k := by
  intro k
  induction k with
  | zero => simp [closes]
  | succ k ih => unfold closes; split <;> omega

theorem dst_counts (f : Nat → Int) : ∀ k : Nat, (∀ j, j < k → f j ≠ 34) → dst f k = ((opens f k : Int) - (closes f k : Int), false, false) := by
  intro k
  induction k with
  | zero => intro _; rfl
  | succ k ih =>
    intro h
    rw [dst_succ, ih (fun j hj => h j (by omega))]
    have h34 := h k (by omega)
    rw [opens_succ, closes_succ]
    by_cases h1 : f k = 91 ∨ f k = 123
    · have h2 : ¬ (f k = 93 ∨ f k = 125) := by omega
      rw [step_out_open _ _ _ h1, if_pos h1, if_neg h2]
      exact Prod.ext (by simp; omega) rfl
    · by_cases h2 : f k = 93 ∨ f k = 125
      · rw [step_out_close _ _ _ h2, if_neg h1, if_pos h2]
        exact Prod.ext (by simp; omega) rfl
      · rw [step_out_other _ _ _ h34 (fun h => h1 (.inl h)) (fun h => h1 (.inr h)) (fun h => h2 (.inl h)) (fun h => h2 (.inr h)), if_neg h1, if_neg h2]
        simp
end Go.Proofs.Qxb6623281a
