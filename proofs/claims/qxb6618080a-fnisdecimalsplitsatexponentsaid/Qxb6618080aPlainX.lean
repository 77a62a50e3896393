/-
  The plain law of the split at the exponent: no Go in sight.
-/
import Derived.Test.Qxb6618080aPlain
namespace Go.Proofs.Qxb6618080a.Plain

/-- zzHas -/
def hasB : List Int → Int → Bool
  | [], _ => false
  | d :: t, c => if d = c then true else hasB t c

/-- the state behind m, or -1 -/
def fol : Int → List Int → Int
  | s, [] => s
  | s, c :: t => if stp s (cls c) < 0 then -1 else fol (stp s (cls c)) t

theorem acc_append (m r : List Int) : ∀ s, ¬ s < 0 → acc s (m ++ r) = if fol s m < 0 then false else acc (fol s m) r := by
  induction m with
  | nil => intro s hs; rw [fol, if_neg hs]; rfl
  | cons c t ih =>
    intro s hs
    rw [List.cons_append, acc, fol]
    by_cases h : stp s (cls c) < 0
    · rw [if_pos h, if_pos h, if_pos (by decide)]
    · rw [if_neg h, if_neg h, ih _ h]

theorem acc_fol (m : List Int) (s : Int) (hs : ¬ s < 0) : acc s m = decide (fol s m = 2 ∨ fol s m = 4 ∨ fol s m = 7) := by
  have h := acc_append m [] s hs
  rw [List.append_nil] at h
  rw [h]
  by_cases hn : fol s m < 0
  · rw [if_pos hn, decide_eq_false (by omega)]
  · rw [if_neg hn, acc]

theorem cls_E {c : Int} (h : c = 101 ∨ c = 69) : cls c = 3 := by rcases h with rfl | rfl <;> rfl
theorem cls_nE {c : Int} (h : ¬ (c = 101 ∨ c = 69)) : cls c ≠ 3 := by
  unfold cls isE
  rw [decide_eq_false h]
  repeat' split
  all_goals first | decide | contradiction
theorem cls_nP {c : Int} (h : ¬ c = 46) : cls c ≠ 2 := by
  unfold cls
  rw [if_neg h]
  repeat' split
  all_goals decide
theorem cls_cases (c : Int) : cls c = 0 ∨ cls c = 1 ∨ cls c = 2 ∨ cls c = 3 ∨ cls c = 4 := by
  unfold cls
  repeat' split
  all_goals decide

/-- from the exponent's states there is no way back -/
theorem fol_hi (m : List Int) : ∀ s, (s = 5 ∨ s = 6 ∨ s = 7) → (fol s m = -1 ∨ fol s m = 5 ∨ fol s m = 6 ∨ fol s m = 7) := by
  induction m with
  | nil => intro s hs; rw [fol]; omega
  | cons c t ih =>
    intro s hs
    rw [fol]
    by_cases h : stp s (cls c) < 0
    · rw [if_pos h]; omega
    · rw [if_neg h]
      apply ih
      revert h
      rcases hs with rfl | rfl | rfl <;> rcases cls_cases c with e | e | e | e | e <;> rw [e] <;> decide

/-- without an exponent letter: the states ahead of the exponent; with one: those behind it -/
theorem fol_lo (m : List Int) : ∀ s, (s = 0 ∨ s = 1 ∨ s = 2 ∨ s = 3 ∨ s = 4) →
    (hasB m 101 = false ∧ hasB m 69 = false → (fol s m = -1 ∨ fol s m = 0 ∨ fol s m = 1 ∨ fol s m = 2 ∨ fol s m = 3 ∨ fol s m = 4)) ∧
    (hasB m 101 = true ∨ hasB m 69 = true → (fol s m = -1 ∨ fol s m = 5 ∨ fol s m = 6 ∨ fol s m = 7)) := by
  induction m with
  | nil => intro s hs; rw [fol]; exact ⟨fun _ => by omega, fun h => by simp [hasB] at h⟩
  | cons c t ih =>
    intro s hs
    rw [fol, hasB, hasB]
    by_cases he : c = 101 ∨ c = 69
    · refine ⟨fun h => ?_, fun _ => ?_⟩
      · rcases he with rfl | rfl
        · simp at h
        · simp at h
      · rw [cls_E he]
        by_cases h : stp s 3 < 0
        · rw [if_pos h]; omega
        · rw [if_neg h]
          apply fol_hi
          revert h
          rcases hs with rfl | rfl | rfl | rfl | rfl <;> decide
    · rw [if_neg (fun hx => he (Or.inl hx)), if_neg (fun hx => he (Or.inr hx))]
      by_cases h : stp s (cls c) < 0
      · rw [if_pos h]; omega
      · rw [if_neg h]
        apply ih
        have n3 := cls_nE he
        revert h n3
        rcases hs with rfl | rfl | rfl | rfl | rfl <;> rcases cls_cases c with e | e | e | e | e <;> rw [e] <;> decide

theorem stp_e (q : Int) : stp q 3 = if q = 2 ∨ q = 4 then 5 else -1 := by
  unfold stp
  repeat' split
  all_goals omega

theorem acc_at_e (m x : List Int) (e : Int) (he : e = 101 ∨ e = 69) : acc 0 (m ++ e :: x) = if fol 0 m = 2 ∨ fol 0 m = 4 then acc 5 x else false := by
  rw [acc_append m _ 0 (by decide)]
  by_cases hn : fol 0 m < 0
  · rw [if_pos hn, if_neg (by omega)]
  · rw [if_neg hn, acc, cls_E he, stp_e]
    by_cases h : fol 0 m = 2 ∨ fol 0 m = 4
    · rw [if_pos h, if_pos h, if_neg (by decide)]
    · rw [if_neg h, if_neg h, if_pos (by decide)]

theorem acc_hi_good (x : List Int) : ∀ s, (s = 5 ∨ s = 6 ∨ s = 7) → acc s x = true → hasB x 46 = false ∧ hasB x 101 = false ∧ hasB x 69 = false := by
  induction x with
  | nil => intro s _ _; exact ⟨rfl, rfl, rfl⟩
  | cons c t ih =>
    intro s hs h
    rw [acc] at h
    by_cases hd : stp s (cls c) < 0
    · rw [if_pos hd] at h; cases h
    · rw [if_neg hd] at h
      have n2 : cls c ≠ 2 := by
        intro e; apply hd; rw [e]; rcases hs with rfl | rfl | rfl <;> decide
      have n3 : cls c ≠ 3 := by
        intro e; apply hd; rw [e]; rcases hs with rfl | rfl | rfl <;> decide
      have hs' : stp s (cls c) = 5 ∨ stp s (cls c) = 6 ∨ stp s (cls c) = 7 := by
        revert hd
        rcases hs with rfl | rfl | rfl <;> rcases cls_cases c with e | e | e | e | e <;> rw [e] <;> decide
      have k := ih _ hs' h
      have c46 : ¬ c = 46 := by intro e; subst e; exact n2 rfl
      have c101 : ¬ c = 101 := by intro e; subst e; exact n3 rfl
      have c69 : ¬ c = 69 := by intro e; subst e; exact n3 rfl
      rw [hasB, hasB, hasB, if_neg c46, if_neg c101, if_neg c69]
      exact k

theorem acc_sim (x : List Int) : ∀ s, (s = 5 ∨ s = 6 ∨ s = 7) → hasB x 46 = false → hasB x 101 = false → hasB x 69 = false → acc s x = acc (s - 5) x := by
  induction x with
  | nil => intro s hs _ _ _; rw [acc, acc]; rcases hs with rfl | rfl | rfl <;> rfl
  | cons c t ih =>
    intro s hs h1 h2 h3
    rw [hasB] at h1 h2 h3
    have c46 : ¬ c = 46 := by intro e; rw [if_pos e] at h1; cases h1
    have c101 : ¬ c = 101 := by intro e; rw [if_pos e] at h2; cases h2
    have c69 : ¬ c = 69 := by intro e; rw [if_pos e] at h3; cases h3
    rw [if_neg c46] at h1
    rw [if_neg c101] at h2
    rw [if_neg c69] at h3
    have n2 := cls_nP c46
    have n3 := cls_nE (c := c) (by omega)
    rw [acc, acc]
    have e : stp s (cls c) = -1 ∧ stp (s - 5) (cls c) = -1 ∨ stp (s - 5) (cls c) = stp s (cls c) - 5 ∧ (stp s (cls c) = 5 ∨ stp s (cls c) = 6 ∨ stp s (cls c) = 7) := by
      revert n2 n3
      rcases hs with rfl | rfl | rfl <;> rcases cls_cases c with e | e | e | e | e <;> rw [e] <;> decide
    rcases e with ⟨e1, e2⟩ | ⟨e1, e2⟩
    · rw [e1, e2, if_pos (by decide)]
    · rw [e1, if_neg (by omega), if_neg (by omega)]
      exact ih _ e2 h1 h2 h3

/-- what the law wants of m and x -/
def wantB (m x : List Int) : Bool := acc 0 m && !hasB m 101 && !hasB m 69 && acc 0 x && !hasB x 46 && !hasB x 101 && !hasB x 69

/-- LAW C -/
theorem acc_split (m x : List Int) (e : Int) (he : e = 101 ∨ e = 69) : acc 0 (m ++ e :: x) = wantB m x := by
  rw [acc_at_e m x e he, Bool.eq_iff_iff]
  have L := fol_lo m 0 (by decide)
  constructor
  · intro h
    by_cases hq : fol 0 m = 2 ∨ fol 0 m = 4
    · rw [if_pos hq] at h
      have g := acc_hi_good x 5 (by decide) h
      have s := acc_sim x 5 (by decide) g.1 g.2.1 g.2.2
      rw [h] at s
      have a : acc 0 m = true := by rw [acc_fol m 0 (by decide)]; exact decide_eq_true (by omega)
      have h1 : hasB m 101 = false := by
        cases hh : hasB m 101 with
        | false => rfl
        | true => have := L.2 (Or.inl hh); omega
      have h2 : hasB m 69 = false := by
        cases hh : hasB m 69 with
        | false => rfl
        | true => have := L.2 (Or.inr hh); omega
      have s' : acc 0 x = true := s.symm
      unfold wantB
      rw [a, h1, h2, s', g.1, g.2.1, g.2.2]; rfl
    · rw [if_neg hq] at h; cases h
  · intro h
    unfold wantB at h
    simp only [Bool.and_eq_true, Bool.not_eq_true'] at h
    obtain ⟨⟨⟨⟨⟨⟨a, h1⟩, h2⟩, b⟩, g1⟩, g2⟩, g3⟩ := h
    rw [acc_fol m 0 (by decide)] at a
    have a' := of_decide_eq_true a
    have := L.1 ⟨h1, h2⟩
    rw [if_pos (by omega), acc_sim x 5 (by decide) g1 g2 g3]
    exact b

end Go.Proofs.Qxb6618080a.Plain
