/-
  The plain law of the recursive descent against the depth count: no Go in sight.
-/
import Derived.Test.Qxb6618013aPlainB
namespace Go.Proofs.Qxb6618013a.PlainB

/-- zzCommentEnd's loop at position k, with fuel; the descent into a comment at k goes on at k + 2 -/
def cl (f : Nat → Int) (n : Nat) : Nat → Nat → Int
  | 0, _ => -1
  | fu + 1, k =>
    if k < n then
      if at2B f n 42 47 k = true then (k : Int) + 2
      else if at2B f n 47 42 k = true then
        if cl f n fu (k + 2) < 0 then -1 else cl f n fu (cl f n fu (k + 2)).toNat
      else cl f n fu (k + 1)
    else -1

theorem cl_bd (f : Nat → Int) (n : Nat) (fu : Nat) : ∀ k, cl f n fu k = -1 ∨ ((k : Int) + 2 ≤ cl f n fu k ∧ cl f n fu k ≤ n) := by
  induction fu with
  | zero => intro k; exact Or.inl rfl
  | succ fu ih =>
    intro k
    rw [cl]
    have h1 := ih (k + 1)
    have h2 := ih (k + 2)
    have h3 := ih (cl f n fu (k + 2)).toNat
    split
    · split
      · rename_i hc; have := at2B_true hc; omega
      · split
        · split
          · omega
          · omega
        · omega
    · omega

theorem sc_fuel (f : Nat → Int) (n : Nat) (F : Nat) : ∀ G k d, n < k + F → n < k + G → sc f n F k d = sc f n G k d := by
  induction F with
  | zero =>
    intro G k d h1 h2
    cases G with
    | zero => rfl
    | succ G => rw [sc, sc, if_neg (by omega)]
  | succ F ih =>
    intro G k d h1 h2
    cases G with
    | zero => rw [sc, sc, if_neg (by omega)]
    | succ G =>
      rw [sc, sc]
      rw [ih G (k + 2) (d + 1) (by omega) (by omega), ih G (k + 2) (d - 1) (by omega) (by omega), ih G (k + 1) d (by omega) (by omega)]

theorem cl_out {f : Nat → Int} {n : Nat} (fu : Nat) {k : Nat} (h : ¬ k < n) : cl f n fu k = -1 := by
  cases fu with
  | zero => rfl
  | succ fu => rw [cl, if_neg h]
theorem cl_close {f : Nat → Int} {n : Nat} (fu : Nat) {k : Nat} (hc : at2B f n 42 47 k = true) : cl f n (fu + 1) k = (k : Int) + 2 := by
  rw [cl, if_pos (by have := at2B_true hc; omega), if_pos hc]
theorem cl_lost {f : Nat → Int} {n : Nat} (fu : Nat) {k : Nat} (hc : ¬ at2B f n 42 47 k = true) (ho : at2B f n 47 42 k = true) (he : cl f n fu (k + 2) < 0) : cl f n (fu + 1) k = -1 := by
  rw [cl, if_pos (by have := at2B_true ho; omega), if_neg hc, if_pos ho, if_pos he]
theorem cl_inner {f : Nat → Int} {n : Nat} (fu : Nat) {k e : Nat} (hc : ¬ at2B f n 42 47 k = true) (ho : at2B f n 47 42 k = true) (he : cl f n fu (k + 2) = (e : Int)) : cl f n (fu + 1) k = cl f n fu e := by
  rw [cl, if_pos (by have := at2B_true ho; omega), if_neg hc, if_pos ho, if_neg (by omega), he]; rfl
theorem cl_next {f : Nat → Int} {n : Nat} (fu : Nat) {k : Nat} (hk : k < n) (hc : ¬ at2B f n 42 47 k = true) (ho : ¬ at2B f n 47 42 k = true) : cl f n (fu + 1) k = cl f n fu (k + 1) := by
  rw [cl, if_pos hk, if_neg hc, if_neg ho]
theorem sc_past {f : Nat → Int} {n : Nat} (fu : Nat) {k : Nat} (d : Int) (h : ¬ k < n) : sc f n fu k d = n := by
  cases fu with
  | zero => rfl
  | succ fu => rw [sc, if_neg h]
theorem not_both {f : Nat → Int} {n : Nat} {k : Nat} (hc : at2B f n 42 47 k = true) : ¬ at2B f n 47 42 k = true := by
  intro ho
  have a := at2B_true hc
  have b := at2B_true ho
  omega

theorem sc_cl (f : Nat → Int) (n : Nat) (fu : Nat) : ∀ k d F, 1 ≤ d → n < k + fu → n < k + F →
    sc f n F k d = if cl f n fu k < 0 then n else if d = 1 then (cl f n fu k).toNat else sc f n F (cl f n fu k).toNat (d - 1) := by
  induction fu with
  | zero =>
    intro k d F _ h1 h2
    rw [cl_out 0 (by omega), sc_past F d (by omega), if_pos (by decide)]
  | succ fu ih =>
    intro k d F hd h1 h2
    by_cases hk : k < n
    · obtain ⟨F, rfl⟩ : ∃ G, F = G + 1 := ⟨F - 1, by omega⟩
      rw [sc, if_pos hk]
      by_cases hc : at2B f n 42 47 k = true
      · rw [if_neg (not_both hc), if_pos hc, cl_close fu hc, if_neg (show ¬ ((k : Int) + 2 < 0) by omega), show ((k : Int) + 2).toNat = k + 2 from by omega]
        by_cases h : d = 1
        · rw [if_pos (show d - 1 = 0 by omega), if_pos h]
        · rw [if_neg (show ¬ d - 1 = 0 by omega), if_neg h]
          exact sc_fuel f n F (F + 1) (k + 2) (d - 1) (by omega) (by omega)
      · by_cases ho : at2B f n 47 42 k = true
        · rw [if_pos ho]
          rw [ih (k + 2) (d + 1) F (by omega) (by omega) (by omega)]
          have bd := cl_bd f n fu (k + 2)
          by_cases he : cl f n fu (k + 2) < 0
          · rw [if_pos he, cl_lost fu hc ho he, if_pos (by decide)]
          · rw [if_neg he, if_neg (by omega)]
            rw [show d + 1 - 1 = d from by omega]
            obtain ⟨e, hE⟩ : ∃ e : Nat, cl f n fu (k + 2) = (e : Int) := ⟨(cl f n fu (k + 2)).toNat, by omega⟩
            rw [cl_inner fu hc ho hE, hE, show ((e : Int)).toNat = e from by omega]
            rw [hE] at bd
            rw [ih e d F hd (by omega) (by omega)]
            have bd2 := cl_bd f n fu e
            by_cases h2e : cl f n fu e < 0
            · rw [if_pos h2e, if_pos h2e]
            · rw [if_neg h2e, if_neg h2e]
              by_cases h : d = 1
              · rw [if_pos h, if_pos h]
              · rw [if_neg h, if_neg h]
                exact sc_fuel f n F (F + 1) _ (d - 1) (by omega) (by omega)
        · rw [if_neg ho, if_neg hc, cl_next fu hk hc ho]
          rw [ih (k + 1) d F hd (by omega) (by omega)]
          have bd := cl_bd f n fu (k + 1)
          by_cases he : cl f n fu (k + 1) < 0
          · rw [if_pos he, if_pos he]
          · rw [if_neg he, if_neg he]
            by_cases h : d = 1
            · rw [if_pos h, if_pos h]
            · rw [if_neg h, if_neg h]
              exact sc_fuel f n F (F + 1) _ (d - 1) (by omega) (by omega)
    · rw [sc_past F d hk, cl_out _ hk, if_pos (by decide)]

/-- at an opening mark the depth count answers what the descent answers -/
theorem sc_nested (f : Nat → Int) (n fu i : Nat) (hi : at2B f n 47 42 i = true) (hf : n < i + fu) :
    sc f n (fu + 1) i 0 = if cl f n fu (i + 2) < 0 then n else (cl f n fu (i + 2)).toNat := by
  have a := at2B_true hi
  rw [sc, if_pos (by omega), if_pos hi, sc_cl f n fu (i + 2) (0 + 1) fu (by omega) (by omega) (by omega)]
  by_cases h : cl f n fu (i + 2) < 0
  · rw [if_pos h, if_pos h]
  · rw [if_neg h, if_neg h, if_pos (by omega)]

end Go.Proofs.Qxb6618013a.PlainB
