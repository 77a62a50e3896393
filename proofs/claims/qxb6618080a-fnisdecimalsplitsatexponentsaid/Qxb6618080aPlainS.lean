/-
  The plain law of a sign set ahead and of the run of digits: no Go in sight.
-/
import Derived.Test.Qxb6618080aPlain
namespace Go.Proofs.Qxb6618080a.Plain

theorem acc1_cons (c : Int) (t : List Int) : acc 1 (c :: t) = (acc 0 (c :: t) && decide (48 ≤ c ∧ c ≤ 57)) := by
  by_cases h : 48 ≤ c ∧ c ≤ 57
  · have hd : isD c = true := decide_eq_true h
    have c0 : cls c = 0 := by unfold cls; rw [if_pos hd]
    rw [acc_go 1 c t 2 (by rw [c0]; rfl) (by decide), acc_go 0 c t 2 (by rw [c0]; rfl) (by decide), decide_eq_true h, Bool.and_true]
  · have hd : ¬ isD c = true := by unfold isD; rw [decide_eq_false h]; decide
    have c0 : cls c ≠ 0 := by
      unfold cls; rw [if_neg hd]
      repeat' split
      all_goals decide
    rw [acc_dead 1 c t (by simp [stp, c0]), decide_eq_false h, Bool.and_false]

theorem acc_plus (t : List Int) : acc 0 (43 :: t) = acc 1 t := acc_go 0 43 t 1 rfl (by decide)
theorem acc_minus (t : List Int) : acc 0 (45 :: t) = acc 1 t := acc_go 0 45 t 1 rfl (by decide)

theorem acc_all (s : Int) (hs : stp s 0 = s) (hp : ¬ s < 0) (h2 : s = 2 ∨ s = 4 ∨ s = 7) : ∀ l : List Int, (∀ c ∈ l, isD c = true) → acc s l = true
  | [], _ => by rw [acc]; exact decide_eq_true h2
  | c :: t, h => by
    have hc := h c (by simp)
    rw [acc_go s c t s (by unfold cls; rw [if_pos hc]; exact hs) hp]
    exact acc_all s hs hp h2 t (fun d hd => h d (by simp [hd]))

/-- a run of digits is a decimal just where it is not empty -/
theorem acc_run (l : List Int) (h : ∀ c ∈ l, isD c = true) : acc 0 l = decide (0 < l.length) := by
  match l, h with
  | [], _ => rfl
  | c :: t, h =>
    have hc := h c (by simp)
    rw [acc_go 0 c t 2 (by unfold cls; rw [if_pos hc]; rfl) (by decide)]
    rw [acc_all 2 rfl (by decide) (by decide) t (fun d hd => h d (by simp [hd]))]
    rfl

theorem takeWhile_all (l : List Int) : ∀ c ∈ l.takeWhile isD, isD c = true := by
  induction l with
  | nil => intro c hc; simp at hc
  | cons a t ih =>
    intro c hc
    rw [List.takeWhile_cons] at hc
    by_cases h : isD a = true
    · rw [if_pos h] at hc
      rcases List.mem_cons.mp hc with rfl | hc
      · exact h
      · exact ih c hc
    · rw [if_neg h] at hc; simp at hc

end Go.Proofs.Qxb6618080a.Plain
