/-
  The plain law of 'skipQuoted': no Go in sight.
-/
namespace Go.Proofs.Qxb6618013a.PlainQ

/-- skipQuoted's loop at position k over the bytes f 0 .. f (n-1), with fuel. -/
def sq (f : Nat → Int) (n : Nat) (q : Int) (bs : Bool) : Nat → Nat → Nat
  | 0, _ => n
  | fu + 1, k =>
    if k < n then
      if f k = 92 then sq f n q bs fu (if bs = true then k + 2 else k + 1)
      else if f k = q then
        if k + 1 < n ∧ f (k + 1) = q then sq f n q bs fu (k + 2) else k + 1
      else sq f n q bs fu (k + 1)
    else n

theorem sq_le (f : Nat → Int) (n : Nat) (q : Int) (bs : Bool) (fu : Nat) : ∀ k, sq f n q bs fu k ≤ n := by
  induction fu with
  | zero => intro k; exact Nat.le_refl _
  | succ fu ih =>
    intro k; unfold sq
    have h1 := ih (if bs = true then k + 2 else k + 1)
    have h2 := ih (k + 1)
    have h3 := ih (k + 2)
    repeat' split
    all_goals first | exact h1 | exact h2 | exact h3 | omega

/-- an answer is past the start, or it is the end -/
theorem sq_gt (f : Nat → Int) (n : Nat) (q : Int) (bs : Bool) (fu : Nat) : ∀ k, k < sq f n q bs fu k ∨ sq f n q bs fu k = n := by
  induction fu with
  | zero => intro k; exact Or.inr rfl
  | succ fu ih =>
    intro k; unfold sq
    have h2 := ih (k + 1)
    have h3 := ih (k + 2)
    repeat' split
    all_goals omega

/-- a closed text has the quote just ahead -/
theorem sq_quote (f : Nat → Int) (n : Nat) (q : Int) (bs : Bool) (fu : Nat) : ∀ k, sq f n q bs fu k < n → f (sq f n q bs fu k - 1) = q := by
  induction fu with
  | zero => intro k h; exact absurd h (Nat.lt_irrefl _)
  | succ fu ih =>
    intro k; unfold sq
    have h1 := ih (if bs = true then k + 2 else k + 1)
    have h2 := ih (k + 1)
    have h3 := ih (k + 2)
    split
    · split
      · exact h1
      · split
        · split
          · exact h3
          · rename_i hq _; intro _; simpa using hq
        · exact h2
    · intro h; exact absurd h (Nat.lt_irrefl _)

/-- a closed answer stays where the bytes up to it are the same, shifted by d, and the text there ends at it or goes on as here -/
theorem sq_closed (f g : Nat → Int) (n m d : Nat) (q : Int) (bs : Bool) (fu : Nat) :
    ∀ k, sq f n q bs fu k < n → d + sq f n q bs fu k ≤ m → (∀ j, j < sq f n q bs fu k → g (d + j) = f j) → (d + sq f n q bs fu k < m → g (d + sq f n q bs fu k) = f (sq f n q bs fu k)) → sq g m q bs fu (d + k) = d + sq f n q bs fu k := by
  induction fu with
  | zero => intro k h; exact absurd h (Nat.lt_irrefl _)
  | succ fu ih =>
    intro k
    have a1 := sq_gt f n q bs fu (k + 1)
    have a2 := sq_gt f n q bs fu (k + 2)
    unfold sq
    by_cases hk : k < n
    · simp only [hk, if_true]
      by_cases h92 : f k = 92
      · simp only [h92, if_true]
        by_cases hb : bs = true
        · rw [if_pos hb, if_pos hb]
          intro h1 h2 h3 h4
          have e := h3 k (by omega)
          rw [if_pos (by omega), if_pos (by rw [e]; exact h92)]
          exact ih (k + 2) h1 h2 h3 h4
        · rw [if_neg hb, if_neg hb]
          intro h1 h2 h3 h4
          have e := h3 k (by omega)
          rw [if_pos (by omega), if_pos (by rw [e]; exact h92)]
          exact ih (k + 1) h1 h2 h3 h4
      · simp only [h92, if_false]
        by_cases hq : f k = q
        · simp only [hq, if_true]
          by_cases hd : k + 1 < n ∧ f (k + 1) = q
          · simp only [hd, and_self, if_true]
            intro h1 h2 h3 h4
            have e := h3 k (by omega)
            have e1 := h3 (k + 1) (by omega)
            rw [if_pos (by omega), if_neg (by rw [e]; exact h92), if_pos (by rw [e]; exact hq), if_pos ⟨by omega, by rw [show d + k + 1 = d + (k + 1) from by omega, e1]; exact hd.2⟩]
            exact ih (k + 2) h1 h2 h3 h4
          · rw [if_neg hd]
            intro h1 h2 h3 h4
            have e := h3 k (by omega)
            rw [if_pos (by omega), if_neg (by rw [e]; exact h92), if_pos (by rw [e]; exact hq)]
            rw [if_neg]
            · omega
            · intro hx
              apply hd
              refine ⟨h1, ?_⟩
              rw [← h4 (by omega), show d + (k + 1) = d + k + 1 from by omega]
              exact hx.2
        · simp only [hq, if_false]
          intro h1 h2 h3 h4
          have e := h3 k (by omega)
          rw [if_pos (by omega), if_neg (by rw [e]; exact h92), if_neg (by rw [e]; exact hq)]
          exact ih (k + 1) h1 h2 h3 h4
    · rw [if_neg hk]
      intro h; exact absurd h (Nat.lt_irrefl _)

/-- an answer at the end runs on to at least there in a longer text -/
theorem sq_open (f g : Nat → Int) (n m d : Nat) (q : Int) (bs : Bool) (hm : d + n ≤ m) (hg : ∀ j, j < n → g (d + j) = f j) (fu : Nat) :
    ∀ k, ¬ sq f n q bs fu k < n → d + n ≤ sq g m q bs fu (d + k) := by
  induction fu with
  | zero => intro k _; exact hm
  | succ fu ih =>
    intro k
    by_cases hk : k < n
    · have b1 := sq_gt g m q bs fu (d + (k + 1))
      have b2 := sq_gt g m q bs fu (d + (k + 2))
      have i1 := ih (k + 1)
      have i2 := ih (k + 2)
      have e := hg k hk
      unfold sq
      rw [if_pos hk, if_pos (show d + k < m by omega), e]
      by_cases h92 : f k = 92
      · rw [if_pos h92, if_pos h92]
        by_cases hb : bs = true
        · rw [if_pos hb, if_pos hb]; exact i2
        · rw [if_neg hb, if_neg hb]; exact i1
      · rw [if_neg h92, if_neg h92]
        by_cases hq : f k = q
        · rw [if_pos hq, if_pos hq]
          by_cases hd : k + 1 < n ∧ f (k + 1) = q
          · rw [if_pos hd, if_pos ⟨by omega, by rw [show d + k + 1 = d + (k + 1) from by omega, hg (k + 1) hd.1]; exact hd.2⟩]
            exact i2
          · rw [if_neg hd]
            intro h1
            have : k + 1 = n := by omega
            split
            · rw [show d + k + 2 = d + (k + 2) from by omega]; omega
            · omega
        · rw [if_neg hq, if_neg hq]; exact i1
    · intro _
      have b := sq_gt g m q bs (fu + 1) (d + k)
      omega

end Go.Proofs.Qxb6618013a.PlainQ
