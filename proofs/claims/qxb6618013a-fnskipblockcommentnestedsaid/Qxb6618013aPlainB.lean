/-
  The plain law of 'skipBlockComment': no Go in sight.
-/
namespace Go.Proofs.Qxb6618013a.PlainB

/-- the two bytes x, y stand at k, within the first n bytes -/
def at2B (f : Nat → Int) (n : Nat) (x y : Int) (k : Nat) : Bool := decide (k + 1 < n ∧ f k = x ∧ f (k + 1) = y)
theorem at2B_true {f : Nat → Int} {n : Nat} {x y : Int} {k : Nat} (h : at2B f n x y k = true) : k + 1 < n ∧ f k = x ∧ f (k + 1) = y := of_decide_eq_true h
theorem at2B_false {f : Nat → Int} {n : Nat} {x y : Int} {k : Nat} (h : ¬ at2B f n x y k = true) : ¬ (k + 1 < n ∧ f k = x ∧ f (k + 1) = y) := fun hx => h (decide_eq_true hx)
theorem at2B_mk {f : Nat → Int} {n : Nat} {x y : Int} {k : Nat} (h : k + 1 < n ∧ f k = x ∧ f (k + 1) = y) : at2B f n x y k = true := decide_eq_true h

/-- skipBlockComment's loop at position k and depth d, with fuel -/
def sc (f : Nat → Int) (n : Nat) : Nat → Nat → Int → Nat
  | 0, _, _ => n
  | fu + 1, k, d =>
    if k < n then
      if at2B f n 47 42 k = true then sc f n fu (k + 2) (d + 1)
      else if at2B f n 42 47 k = true then
        if d - 1 = 0 then k + 2 else sc f n fu (k + 2) (d - 1)
      else sc f n fu (k + 1) d
    else n

theorem sc_le (f : Nat → Int) (n : Nat) (fu : Nat) : ∀ k d, sc f n fu k d ≤ n := by
  induction fu with
  | zero => intro k d; exact Nat.le_refl _
  | succ fu ih =>
    intro k d; unfold sc
    have h1 := ih (k + 2) (d + 1)
    have h2 := ih (k + 2) (d - 1)
    have h3 := ih (k + 1) d
    split
    · split
      · exact h1
      · split
        · rename_i hc
          have := at2B_true hc
          split
          · omega
          · exact h2
        · exact h3
    · omega

theorem sc_gt (f : Nat → Int) (n : Nat) (fu : Nat) : ∀ k d, k + 1 < sc f n fu k d ∨ sc f n fu k d = n := by
  induction fu with
  | zero => intro k d; exact Or.inr rfl
  | succ fu ih =>
    intro k d; unfold sc
    have h1 := ih (k + 2) (d + 1)
    have h2 := ih (k + 2) (d - 1)
    have h3 := ih (k + 1) d
    split
    · split
      · omega
      · split
        · split
          · omega
          · omega
        · omega
    · omega

/-- an answer ahead of the end stands just past a closing mark -/
theorem sc_mark (f : Nat → Int) (n : Nat) (fu : Nat) : ∀ k d, sc f n fu k d < n → f (sc f n fu k d - 2) = 42 ∧ f (sc f n fu k d - 1) = 47 := by
  induction fu with
  | zero => intro k d h; exact absurd h (Nat.lt_irrefl _)
  | succ fu ih =>
    intro k d; unfold sc
    have h1 := ih (k + 2) (d + 1)
    have h2 := ih (k + 2) (d - 1)
    have h3 := ih (k + 1) d
    split
    · split
      · exact h1
      · split
        · rename_i hc
          have hc := at2B_true hc
          split
          · intro _; exact ⟨hc.2.1, hc.2.2⟩
          · exact h2
        · exact h3
    · intro h; exact absurd h (Nat.lt_irrefl _)

theorem at2B_shift (f g : Nat → Int) (n m e : Nat) (x y : Int) (k : Nat) (h1 : k + 1 < n) (h2 : e + k + 1 < m) (hk : g (e + k) = f k) (hk1 : g (e + k + 1) = f (k + 1)) :
    at2B g m x y (e + k) = at2B f n x y k := by
  unfold at2B; rw [hk, hk1]; simp [h1, h2]

theorem sc_closed (f g : Nat → Int) (n m e : Nat) (fu : Nat) :
    ∀ k d, sc f n fu k d < n → e + sc f n fu k d ≤ m → (∀ j, j < sc f n fu k d → g (e + j) = f j) → sc g m fu (e + k) d = e + sc f n fu k d := by
  induction fu with
  | zero => intro k d h; exact absurd h (Nat.lt_irrefl _)
  | succ fu ih =>
    intro k d h1 h2 h3
    have a := sc_gt f n (fu + 1) k d
    have b1 := at2B_shift f g n m e 47 42 k (by omega) (by omega) (h3 k (by omega)) (by rw [show e + k + 1 = e + (k + 1) from by omega]; exact h3 (k + 1) (by omega))
    have b2 := at2B_shift f g n m e 42 47 k (by omega) (by omega) (h3 k (by omega)) (by rw [show e + k + 1 = e + (k + 1) from by omega]; exact h3 (k + 1) (by omega))
    revert h1 h2 h3
    unfold sc at a ⊢
    rw [b1, b2]
    by_cases hk : k < n
    · rw [if_pos hk]
      rw [if_pos hk] at a
      by_cases ho : at2B f n 47 42 k = true
      · rw [if_pos ho, if_pos ho]
        intro h1 h2 h3
        rw [if_pos ho] at a
        rw [if_pos (by omega)]
        exact ih (k + 2) (d + 1) h1 h2 h3
      · rw [if_neg ho, if_neg ho]
        rw [if_neg ho] at a
        by_cases hc : at2B f n 42 47 k = true
        · rw [if_pos hc, if_pos hc]
          rw [if_pos hc] at a
          by_cases hd : d - 1 = 0
          · rw [if_pos hd, if_pos hd]
            intro h1 h2 h3
            rw [if_pos (by omega)]
            omega
          · rw [if_neg hd, if_neg hd]
            rw [if_neg hd] at a
            intro h1 h2 h3
            rw [if_pos (by omega)]
            exact ih (k + 2) (d - 1) h1 h2 h3
        · rw [if_neg hc, if_neg hc]
          rw [if_neg hc] at a
          intro h1 h2 h3
          rw [if_pos (by omega)]
          exact ih (k + 1) d h1 h2 h3
    · rw [if_neg hk]
      intro h; exact absurd h (Nat.lt_irrefl _)

theorem sc_open (f g : Nat → Int) (n m e : Nat) (hm : e + n ≤ m) (hg : ∀ j, j < n → g (e + j) = f j) (fu : Nat) :
    ∀ k d, ¬ sc f n fu k d < n → e + n ≤ sc g m fu (e + k) d := by
  induction fu with
  | zero => intro k d _; exact hm
  | succ fu ih =>
    intro k d
    by_cases hk1 : k + 1 < n
    · have b1 := at2B_shift f g n m e 47 42 k (by omega) (by omega) (hg k (by omega)) (by rw [show e + k + 1 = e + (k + 1) from by omega]; exact hg (k + 1) (by omega))
      have b2 := at2B_shift f g n m e 42 47 k (by omega) (by omega) (hg k (by omega)) (by rw [show e + k + 1 = e + (k + 1) from by omega]; exact hg (k + 1) (by omega))
      unfold sc
      rw [b1, b2, if_pos (show k < n by omega), if_pos (show e + k < m by omega)]
      by_cases ho : at2B f n 47 42 k = true
      · rw [if_pos ho, if_pos ho]; exact ih (k + 2) (d + 1)
      · rw [if_neg ho, if_neg ho]
        by_cases hc : at2B f n 42 47 k = true
        · rw [if_pos hc, if_pos hc]
          by_cases hd : d - 1 = 0
          · rw [if_pos hd, if_pos hd]; intro h; omega
          · rw [if_neg hd, if_neg hd]; exact ih (k + 2) (d - 1)
        · rw [if_neg hc, if_neg hc]; exact ih (k + 1) d
    · intro _
      have c1 := sc_gt g m fu (e + k + 2) (d + 1)
      have c2 := sc_gt g m fu (e + k + 2) (d - 1)
      have c3 := sc_gt g m fu (e + k + 1) d
      unfold sc
      split
      · split
        · omega
        · split
          · split
            · omega
            · omega
          · omega
      · omega

end Go.Proofs.Qxb6618013a.PlainB
