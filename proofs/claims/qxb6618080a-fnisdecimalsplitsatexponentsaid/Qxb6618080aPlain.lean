/-
  The plain law of 'isDecimal': no Go in sight.
-/
namespace Go.Proofs.Qxb6618080a.Plain

def isD (c : Int) : Bool := decide (48 ≤ c ∧ c ≤ 57)
def isS (c : Int) : Bool := decide (c = 43 ∨ c = 45)
def isE (c : Int) : Bool := decide (c = 101 ∨ c = 69)

/-- zzDecClass -/
def cls (c : Int) : Int :=
  if isD c = true then 0 else if isS c = true then 1 else if c = 46 then 2 else if isE c = true then 3 else 4

/-- zzDecStep -/
def stp (s k : Int) : Int :=
  if s = 0 then (if k = 1 then 1 else if k = 0 then 2 else -1)
  else if s = 1 then (if k = 0 then 2 else -1)
  else if s = 2 then (if k = 0 then 2 else if k = 2 then 3 else if k = 3 then 5 else -1)
  else if s = 3 then (if k = 0 then 4 else -1)
  else if s = 4 then (if k = 0 then 4 else if k = 3 then 5 else -1)
  else if s = 5 then (if k = 1 then 6 else if k = 0 then 7 else -1)
  else if s = 6 then (if k = 0 then 7 else -1)
  else if s = 7 then (if k = 0 then 7 else -1)
  else -1

/-- the automaton from state s -/
def acc : Int → List Int → Bool
  | s, [] => decide (s = 2 ∨ s = 4 ∨ s = 7)
  | s, c :: t => if stp s (cls c) < 0 then false else acc (stp s (cls c)) t

/-- the position behind the digits that stand at k -/
def de (l : List Int) (k : Nat) : Nat := k + ((l.drop k).takeWhile isD).length
/-- the position behind an optional sign at k -/
def sp (l : List Int) (k : Nat) : Nat := if k < l.length ∧ isS (l.getD k 0) = true then k + 1 else k

def frac (l : List Int) (k : Nat) : Option Nat :=
  if k < l.length ∧ l.getD k 0 = 46 then (if k + 1 < de l (k + 1) then some (de l (k + 1)) else none) else some k
def expo (l : List Int) (k : Nat) : Option Nat :=
  if k < l.length ∧ isE (l.getD k 0) = true then (if sp l (k + 1) < de l (sp l (k + 1)) then some (de l (sp l (k + 1))) else none) else some k

/-- isDecimal -/
def dec (l : List Int) : Bool :=
  if sp l 0 < de l (sp l 0) then
    match frac l (de l (sp l 0)) with
    | none => false
    | some k => match expo l k with
      | none => false
      | some m => decide (m = l.length)
  else false

theorem drop_cons (l : List Int) (k : Nat) (h : k < l.length) : l.drop k = l.getD k 0 :: l.drop (k + 1) := by
  rw [List.drop_eq_getElem_cons h]
  simp [List.getD, h]

theorem de_step (l : List Int) (k : Nat) (h : k < l.length) (hd : isD (l.getD k 0) = true) : de l (k + 1) = de l k := by
  unfold de
  rw [drop_cons l k h, List.takeWhile_cons, if_pos hd, List.length_cons]; omega
theorem de_stop (l : List Int) (k : Nat) (h : k < l.length) (hd : isD (l.getD k 0) = false) : de l k = k := by
  unfold de
  rw [drop_cons l k h, List.takeWhile_cons, if_neg (by rw [hd]; decide)]; rfl
theorem de_end (l : List Int) (k : Nat) (h : ¬ k < l.length) : de l k = k := by
  unfold de
  rw [List.drop_eq_nil_of_le (by omega)]; rfl
theorem de_ge (l : List Int) (k : Nat) : k ≤ de l k := by unfold de; omega
theorem de_le (l : List Int) (k : Nat) (h : k ≤ l.length) : de l k ≤ l.length := by
  unfold de
  have := (l.drop k).takeWhile_prefix isD |>.length_le
  rw [List.length_drop] at this; omega

/-- what stands behind the digits is no digit -/
theorem de_next (l : List Int) (n : Nat) : ∀ k, l.length - k = n → de l k < l.length → isD (l.getD (de l k) 0) = false := by
  induction n with
  | zero => intro k hn h; have := de_ge l k; omega
  | succ n ih =>
    intro k hn h
    by_cases hd : isD (l.getD k 0) = true
    · rw [← de_step l k (by omega) hd] at h ⊢
      exact ih (k + 1) (by omega) h
    · have e : isD (l.getD k 0) = false := by simpa using hd
      rw [de_stop l k (by omega) e]; exact e

theorem acc_dead (s : Int) (c : Int) (t : List Int) (h : stp s (cls c) < 0) : acc s (c :: t) = false := by rw [acc, if_pos h]
theorem acc_go (s : Int) (c : Int) (t : List Int) (q : Int) (hq : stp s (cls c) = q) (h : ¬ q < 0) : acc s (c :: t) = acc q t := by rw [acc, hq, if_neg h]

/-- a state that digits keep -/
theorem acc_digits (l : List Int) (s : Int) (hs : stp s 0 = s) (hp : ¬ s < 0) (n : Nat) : ∀ k, l.length - k = n → acc s (l.drop k) = acc s (l.drop (de l k)) := by
  induction n with
  | zero => intro k hn; rw [de_end l k (by omega)]
  | succ n ih =>
    intro k hn
    by_cases hd : isD (l.getD k 0) = true
    · rw [← de_step l k (by omega) hd, ← ih (k + 1) (by omega), drop_cons l k (by omega)]
      exact acc_go s _ _ s (by unfold cls; rw [if_pos hd]; exact hs) hp
    · rw [de_stop l k (by omega) (by simpa using hd)]

/-- a state that wants a digit -/
theorem acc_want (l : List Int) (s q : Int) (hs : stp s 0 = q) (hq : stp q 0 = q) (hp : ¬ q < 0) (h2 : ¬ (s = 2 ∨ s = 4 ∨ s = 7)) (hno : ∀ k, k ≠ 0 → stp s k < 0) (k : Nat) :
    acc s (l.drop k) = if k < de l k then acc q (l.drop (de l k)) else false := by
  by_cases h : k < l.length
  · by_cases hd : isD (l.getD k 0) = true
    · have := de_ge l (k + 1)
      rw [← de_step l k h hd, if_pos (by omega), ← acc_digits l q hq hp _ (k + 1) rfl, drop_cons l k h]
      exact acc_go s _ _ q (by unfold cls; rw [if_pos hd]; exact hs) hp
    · rw [de_stop l k h (by simpa using hd), if_neg (by omega), drop_cons l k h]
      refine acc_dead s _ _ (hno _ ?_)
      unfold cls
      rw [if_neg hd]
      repeat' split
      all_goals decide
  · rw [de_end l k h, if_neg (by omega), List.drop_eq_nil_of_le (by omega), acc]
    exact decide_eq_false h2

theorem isS_not {c : Int} (h : isS c = true) : ¬ isD c = true := by
  unfold isS at h; unfold isD; simp at h ⊢; omega

/-- an optional sign -/
theorem acc_sign (l : List Int) (s q z : Int) (h1 : stp s 1 = q) (h2 : stp s 0 = z) (h3 : stp q 0 = z) (hq : ¬ q < 0) (hz : ¬ z < 0) (hns : ∀ k, k ≠ 0 → k ≠ 1 → stp s k < 0) (hnq : ∀ k, k ≠ 0 → stp q k < 0)
    (e1 : ¬ (s = 2 ∨ s = 4 ∨ s = 7)) (e2 : ¬ (q = 2 ∨ q = 4 ∨ q = 7)) (k : Nat) : acc s (l.drop k) = acc q (l.drop (sp l k)) := by
  unfold sp
  by_cases h : k < l.length
  · by_cases hs : isS (l.getD k 0) = true
    · rw [if_pos ⟨h, hs⟩, drop_cons l k h]
      exact acc_go s _ _ q (by unfold cls; rw [if_neg (isS_not hs), if_pos hs]; exact h1) hq
    · rw [if_neg (fun hx => hs hx.2), drop_cons l k h]
      by_cases hd : isD (l.getD k 0) = true
      · rw [acc_go s _ _ z (by unfold cls; rw [if_pos hd]; exact h2) hz, acc_go q _ _ z (by unfold cls; rw [if_pos hd]; exact h3) hz]
      · have c0 : cls (l.getD k 0) ≠ 0 := by
          unfold cls; rw [if_neg hd]
          repeat' split
          all_goals decide
        have c1 : cls (l.getD k 0) ≠ 1 := by
          unfold cls; rw [if_neg hd, if_neg hs]
          repeat' split
          all_goals decide
        rw [acc_dead s _ _ (hns _ c0 c1), acc_dead q _ _ (hnq _ c0)]
  · rw [if_neg (fun hx => h hx.1), List.drop_eq_nil_of_le (by omega), acc, acc, decide_eq_false e1, decide_eq_false e2]

theorem isE_not {c : Int} (h : isE c = true) : ¬ isD c = true ∧ ¬ isS c = true ∧ ¬ c = 46 := by
  unfold isE at h; unfold isD isS; simp at h ⊢; omega

theorem acc5 (l : List Int) (k : Nat) : acc 5 (l.drop k) = if sp l k < de l (sp l k) then acc 7 (l.drop (de l (sp l k))) else false := by
  rw [acc_sign l 5 6 7 rfl rfl rfl (by decide) (by decide) ?_ ?_ (by decide) (by decide) k]
  · exact acc_want l 6 7 rfl rfl (by decide) (by decide) (by intro k hk; simp [stp, hk]) _
  · intro k h0 h1; simp [stp, h0, h1]
  · intro k h0; simp [stp, h0]
theorem acc1 (l : List Int) (k : Nat) : acc 1 (l.drop k) = if k < de l k then acc 2 (l.drop (de l k)) else false :=
  acc_want l 1 2 rfl rfl (by decide) (by decide) (by intro k hk; simp [stp, hk]) _
theorem acc3 (l : List Int) (k : Nat) : acc 3 (l.drop k) = if k < de l k then acc 4 (l.drop (de l k)) else false :=
  acc_want l 3 4 rfl rfl (by decide) (by decide) (by intro k hk; simp [stp, hk]) _
theorem acc0 (l : List Int) : acc 0 l = acc 1 (l.drop (sp l 0)) := by
  have h := acc_sign l 0 1 2 rfl rfl rfl (by decide) (by decide) (by intro k h0 h1; simp [stp, h0, h1]) (by intro k h0; simp [stp, h0]) (by decide) (by decide) 0
  rwa [List.drop_zero] at h

theorem stp7_no (k : Int) (h : k ≠ 0) : stp 7 k < 0 := by simp [stp, h]
theorem stp4_no (k : Int) (h : k ≠ 0) (h3 : k ≠ 3) : stp 4 k < 0 := by simp [stp, h, h3]
theorem stp24 (k : Int) (h : k ≠ 0) (h2 : k ≠ 2) : stp 2 k = stp 4 k := by simp [stp, h, h2]

/-- behind the digits of the exponent: the end -/
theorem acc7_at (l : List Int) (k : Nat) (hk : k ≤ l.length) (hd : k < l.length → isD (l.getD k 0) = false) : acc 7 (l.drop k) = decide (k = l.length) := by
  by_cases h : k < l.length
  · rw [drop_cons l k h, decide_eq_false (by omega)]
    refine acc_dead _ _ _ ?_
    have c0 : cls (l.getD k 0) ≠ 0 := by
      unfold cls; rw [if_neg (by rw [hd h]; decide)]
      repeat' split
      all_goals decide
    exact stp7_no _ c0
  · rw [List.drop_eq_nil_of_le (by omega), decide_eq_true (by omega)]; rfl

def fin (l : List Int) (o : Option Nat) : Bool := match o with | none => false | some m => decide (m = l.length)

/-- behind the digits: the exponent, or the end -/
theorem acc4_at (l : List Int) (k : Nat) (hk : k ≤ l.length) (hd : k < l.length → isD (l.getD k 0) = false) :
    acc 4 (l.drop k) = fin l (expo l k) := by
  unfold expo
  by_cases h : k < l.length
  · by_cases he : isE (l.getD k 0) = true
    · have hn := isE_not he
      rw [if_pos ⟨h, he⟩, drop_cons l k h]
      rw [acc_go 4 _ _ 5 (by unfold cls; rw [if_neg hn.1, if_neg hn.2.1, if_neg hn.2.2, if_pos he]; rfl) (by decide), acc5]
      by_cases hx : sp l (k + 1) < de l (sp l (k + 1))
      · rw [if_pos hx, if_pos hx]
        have hsp : sp l (k + 1) ≤ l.length := by unfold sp; split <;> omega
        exact acc7_at l _ (de_le l _ hsp) (fun hy => de_next l _ _ rfl hy)
      · rw [if_neg hx, if_neg hx]; rfl
    · rw [if_neg (fun hx => he hx.2), drop_cons l k h]
      have c0 : cls (l.getD k 0) ≠ 0 := by
        unfold cls; rw [if_neg (by rw [hd h]; decide)]
        repeat' split
        all_goals decide
      have c3 : cls (l.getD k 0) ≠ 3 := by
        unfold cls; rw [if_neg he]
        repeat' split
        all_goals decide
      rw [acc_dead 4 _ _ (stp4_no _ c0 c3)]
      show false = decide (k = l.length)
      rw [decide_eq_false (by omega)]
  · rw [if_neg (fun hx => h hx.1), List.drop_eq_nil_of_le (by omega)]
    show true = decide (k = l.length)
    rw [decide_eq_true (by omega)]

theorem acc2_at (l : List Int) (k : Nat) (hk : k ≤ l.length) (hd : k < l.length → isD (l.getD k 0) = false) :
    acc 2 (l.drop k) = match frac l k with | none => false | some m => fin l (expo l m) := by
  unfold frac
  by_cases h : k < l.length
  · by_cases hp : l.getD k 0 = 46
    · rw [if_pos ⟨h, hp⟩, drop_cons l k h, hp, acc_go 2 46 _ 3 rfl (by decide), acc3]
      by_cases hx : k + 1 < de l (k + 1)
      · rw [if_pos hx, if_pos hx]
        exact acc4_at l _ (de_le l _ (by omega)) (fun hy => de_next l _ _ rfl hy)
      · rw [if_neg hx, if_neg hx]
    · rw [if_neg (fun hx => hp hx.2)]
      show acc 2 (l.drop k) = fin l (expo l k)
      rw [← acc4_at l k hk hd, drop_cons l k h]
      have c0 : cls (l.getD k 0) ≠ 0 := by
        unfold cls; rw [if_neg (by rw [hd h]; decide)]
        repeat' split
        all_goals decide
      have c2 : cls (l.getD k 0) ≠ 2 := by
        unfold cls; rw [if_neg (by rw [hd h]; decide), if_neg hp]
        repeat' split
        all_goals decide
      have e : stp 2 (cls (l.getD k 0)) = stp 4 (cls (l.getD k 0)) := stp24 _ c0 c2
      rw [acc, acc, e]
  · rw [if_neg (fun hx => h hx.1)]
    show acc 2 (l.drop k) = fin l (expo l k)
    rw [← acc4_at l k hk hd, List.drop_eq_nil_of_le (by omega)]; rfl

/-- LAW A: isDecimal is the automaton -/
theorem dec_acc (l : List Int) : dec l = acc 0 l := by
  have hsp : sp l 0 ≤ l.length := by unfold sp; split <;> omega
  rw [acc0, acc1]
  unfold dec
  by_cases h : sp l 0 < de l (sp l 0)
  · rw [if_pos h, if_pos h, acc2_at l _ (de_le l _ hsp) (fun hy => de_next l _ _ rfl hy)]
    rfl
  · rw [if_neg h, if_neg h]

end Go.Proofs.Qxb6618080a.Plain
