/-
  The walk of FnIsDecimalSignPrefix.
-/
import Derived.Test.Qxb6618080aRows
import Derived.WalkKit
import Derived.WalkSpells
import Derived.WalkLawsBesides
import Derived.Deep.OwnRows
import Derived.Test.Qxb6618080aPlainS
import Derived.Test.Qxb6618080aWalkP
import Derived.Test.Qxb6618080aCopy
namespace Go.Proofs.Qxb6618080a
open Go.RowKit
open Go.Proofs.Qxb6618080a.Plain

theorem zz_at7 (w : World) (a : Option Addr) (n cap : Nat) (l : List Int) (b : Bool) (hl : l.length ≤ 2097153) (T : Text w a l) (hn : l.length = n) (hb : acc 0 l = b) :
    Calls Try.prog 7 #[.slice a n cap] w fun e w' => e = .returned (.bool b) ∧ Below w.heap.size w w' := by
  rw [← hn, ← hb]; exact zzIsDecimal_any w a cap l hl T

theorem acc_run_at (l : List Int) : acc 0 (run l) = decide (0 < (run l).length) := acc_run _ (takeWhile_all _)

theorem acc1_yes {l : List Int} (h : acc 0 l = true) (hp : 0 < l.length) (h1 : 48 ≤ l.getD 0 0) (h2 : l.getD 0 0 ≤ 57) : acc 1 l = true := by
  cases l with
  | nil => simp at hp
  | cons c t => rw [acc1_cons, h, decide_eq_true (show 48 ≤ c ∧ c ≤ 57 from ⟨h1, h2⟩)]; rfl
theorem acc1_no {l : List Int} (hp : 0 < l.length) (h : ¬ (48 ≤ l.getD 0 0 ∧ l.getD 0 0 ≤ 57)) : acc 1 l = false := by
  cases l with
  | nil => simp at hp
  | cons c t => rw [acc1_cons, decide_eq_false (show ¬ (48 ≤ c ∧ c ≤ 57) from h), Bool.and_false]
theorem acc1_of_no {l : List Int} (h : acc 0 l = false) : acc 1 l = false := by
  cases l with
  | nil => rfl
  | cons c t => rw [acc1_cons, h, Bool.false_and]

theorem below_next {B : Nat} {w w1 w2 : World} (h : Below B w w1) (hB : B ≤ w.heap.size) (k : Below w1.heap.size w1 w2) : Below B w w2 :=
  h.trans (k.mono (Nat.le_trans hB h.size))

set_option maxHeartbeats 2000000 in
theorem walkS_some (w : World) (x : Addr) (cap : Nat) (l : List Int) (hl : l.length ≤ 1048576) (T : Text w (some x) l) :
    Calls Try.prog 5 #[.slice (some x) l.length cap] w fun e w' => e = .returned (.bool true) ∧ Below w.heap.size w w' := by
  have hmk := run_make_row' (P := Try.prog) 22 5 (.int .u8 0) 1 Try.underlying22 Try.info5 rfl .i64 .i64 l.length (by omega) (by omega)
  obtain ⟨W2, hcp, T2, hb2⟩ := copy_in w x cap l T
  go_enter Try.func5, Try.ntmps5
  go_wp2_with (first | (go_at_call 13; refine (zzBytesP_any (some x) l.length cap _ (by unfold maxLen; omega)).mono ?_; rintro e w' ⟨⟨rfl, hsum⟩ | rfl, rfl⟩) | fail)
  · refine (prefix_any W2 43 _ l.length l hl T2).mono ?_
    rintro e w3 ⟨rfl, T3, hb3⟩
    have T23 := T2.later hb3 (Nat.le_refl _)
    have hc3 := below_next hb2 (Nat.le_refl _) hb3
    clear hmk hcp T2 hb2 hb3 T
    go_wp2_with fail
    refine (prefix_any w3 45 _ l.length l hl T23).mono ?_
    rintro e w4 ⟨rfl, T4, hb4⟩
    have T24 := T23.later hb4 (Nat.le_refl _)
    have T34 := T3.later hb4 (Nat.le_refl _)
    have hc4 := below_next hc3 (Nat.le_refl _) hb4
    clear T23 T3 hc3 hb4
    go_wp2_with fail
    by_cases hp : acc 0 l = true
    · have HP : Hid (acc 0 l = true) := hp
      have hpos : 0 < l.length := by
        cases l with
        | nil => simp [acc] at hp
        | cons c t => simp
      clear hp
      obtain ⟨c, hc⟩ : ∃ c, c = l.getD 0 0 := ⟨_, rfl⟩
      have HC : Hid (c = l.getD 0 0) := hc
      clear hc
      refine (zz_at7 w4 _ l.length l.length l true (by omega) T24 rfl HP.out).mono ?_
      rintro e w5 ⟨rfl, hb5⟩
      have T25 := T24.later hb5 (Nat.le_refl _)
      have T35 := T34.later hb5 (Nat.le_refl _)
      have T45 := T4.later hb5 (Nat.le_refl _)
      have hc5 := below_next hc4 (Nat.le_refl _) hb5
      clear T24 T34 T4 hc4 hb5
      obtain ⟨b0, off0, g1, g2⟩ := T25 0 hpos
      rw [← HC.out] at g2
      simp only [Option.some.injEq, Addr.mk.injEq, and_true] at g1
      obtain ⟨rfl, rfl⟩ := g1
      simp only [Nat.add_zero] at g2
      by_cases h48 : 48 ≤ c
      · by_cases h57 : c ≤ 57
        · have H1 : Hid (acc 1 l = true) := acc1_yes HP.out hpos (HC.out ▸ h48) (HC.out ▸ h57)
          go_wp2_with fail
          refine (leading_any w5 _ l.length l (by omega) (Nat.le_refl _) (by omega) T25 (fun h => by cases h)).mono ?_
          rintro e w6 ⟨⟨a', cap', rfl, TR⟩, rfl⟩
          have hrl : (run l).length ≤ l.length := by have := run_le (l := l) (k := sp l 0) rfl; omega
          go_wp2_with fail
          refine (zz_at7 _ _ _ _ (43 :: l) true (by simp; omega) T35 rfl ((acc_plus l).trans H1.out)).mono ?_
          rintro e w7 ⟨rfl, hb7⟩
          have T47 := T45.later hb7 (Nat.le_refl _)
          have TR7 := TR.later hb7 (Nat.le_refl _)
          have hc7 := below_next hc5 (Nat.le_refl _) hb7
          clear T45 TR T35 T25 hc5 hb7
          go_wp2_with fail
          refine (zz_at7 _ _ _ _ (45 :: l) true (by simp; omega) T47 rfl ((acc_minus l).trans H1.out)).mono ?_
          rintro e w8 ⟨rfl, hb8⟩
          have TR8 := TR7.later hb8 (Nat.le_refl _)
          have hc8 := below_next hc7 (Nat.le_refl _) hb8
          clear T47 TR7 hc7 hb8
          go_wp2_with fail
          by_cases hr : 0 < (run l).length
          · refine (zz_at7 _ _ _ _ (run l) true (by omega) TR8 rfl ((acc_run_at l).trans (decide_eq_true hr))).mono ?_
            rintro e w9 ⟨rfl, hb9⟩
            go_wp2_with fail
            go_ret
            exact ⟨rfl, below_next hc8 (Nat.le_refl _) hb9⟩
          · refine (zz_at7 _ _ _ _ (run l) false (by omega) TR8 rfl ((acc_run_at l).trans (decide_eq_false hr))).mono ?_
            rintro e w9 ⟨rfl, hb9⟩
            go_wp2_with fail
            go_ret
            exact ⟨rfl, below_next hc8 (Nat.le_refl _) hb9⟩
        · have H1 : Hid (acc 1 l = false) := acc1_no hpos (fun hx => h57 (HC.out ▸ hx.2))
          have g57 : decide (c ≤ 57) = false := by simpa using h57
          go_wp2_with fail
          refine (leading_any w5 _ l.length l (by omega) (Nat.le_refl _) (by omega) T25 (fun h => by cases h)).mono ?_
          rintro e w6 ⟨⟨a', cap', rfl, TR⟩, rfl⟩
          have hrl : (run l).length ≤ l.length := by have := run_le (l := l) (k := sp l 0) rfl; omega
          go_wp2_with fail
          refine (zz_at7 _ _ _ _ (43 :: l) false (by simp; omega) T35 rfl ((acc_plus l).trans H1.out)).mono ?_
          rintro e w7 ⟨rfl, hb7⟩
          have T47 := T45.later hb7 (Nat.le_refl _)
          have TR7 := TR.later hb7 (Nat.le_refl _)
          have hc7 := below_next hc5 (Nat.le_refl _) hb7
          clear T45 TR T35 T25 hc5 hb7
          go_wp2_with fail
          refine (zz_at7 _ _ _ _ (45 :: l) false (by simp; omega) T47 rfl ((acc_minus l).trans H1.out)).mono ?_
          rintro e w8 ⟨rfl, hb8⟩
          have TR8 := TR7.later hb8 (Nat.le_refl _)
          have hc8 := below_next hc7 (Nat.le_refl _) hb8
          clear T47 TR7 hc7 hb8
          go_wp2_with fail
          by_cases hr : 0 < (run l).length
          · refine (zz_at7 _ _ _ _ (run l) true (by omega) TR8 rfl ((acc_run_at l).trans (decide_eq_true hr))).mono ?_
            rintro e w9 ⟨rfl, hb9⟩
            go_wp2_with fail
            go_ret
            exact ⟨rfl, below_next hc8 (Nat.le_refl _) hb9⟩
          · refine (zz_at7 _ _ _ _ (run l) false (by omega) TR8 rfl ((acc_run_at l).trans (decide_eq_false hr))).mono ?_
            rintro e w9 ⟨rfl, hb9⟩
            go_wp2_with fail
            go_ret
            exact ⟨rfl, below_next hc8 (Nat.le_refl _) hb9⟩
      · have H1 : Hid (acc 1 l = false) := acc1_no hpos (fun hx => h48 (HC.out ▸ hx.1))
        go_wp2_with fail
        refine (leading_any w5 _ l.length l (by omega) (Nat.le_refl _) (by omega) T25 (fun h => by cases h)).mono ?_
        rintro e w6 ⟨⟨a', cap', rfl, TR⟩, rfl⟩
        have hrl : (run l).length ≤ l.length := by have := run_le (l := l) (k := sp l 0) rfl; omega
        go_wp2_with fail
        refine (zz_at7 _ _ _ _ (43 :: l) false (by simp; omega) T35 rfl ((acc_plus l).trans H1.out)).mono ?_
        rintro e w7 ⟨rfl, hb7⟩
        have T47 := T45.later hb7 (Nat.le_refl _)
        have TR7 := TR.later hb7 (Nat.le_refl _)
        have hc7 := below_next hc5 (Nat.le_refl _) hb7
        clear T45 TR T35 T25 hc5 hb7
        go_wp2_with fail
        refine (zz_at7 _ _ _ _ (45 :: l) false (by simp; omega) T47 rfl ((acc_minus l).trans H1.out)).mono ?_
        rintro e w8 ⟨rfl, hb8⟩
        have TR8 := TR7.later hb8 (Nat.le_refl _)
        have hc8 := below_next hc7 (Nat.le_refl _) hb8
        clear T47 TR7 hc7 hb8
        go_wp2_with fail
        by_cases hr : 0 < (run l).length
        · refine (zz_at7 _ _ _ _ (run l) true (by omega) TR8 rfl ((acc_run_at l).trans (decide_eq_true hr))).mono ?_
          rintro e w9 ⟨rfl, hb9⟩
          go_wp2_with fail
          go_ret
          exact ⟨rfl, below_next hc8 (Nat.le_refl _) hb9⟩
        · refine (zz_at7 _ _ _ _ (run l) false (by omega) TR8 rfl ((acc_run_at l).trans (decide_eq_false hr))).mono ?_
          rintro e w9 ⟨rfl, hb9⟩
          go_wp2_with fail
          go_ret
          exact ⟨rfl, below_next hc8 (Nat.le_refl _) hb9⟩
    · have HP : Hid (acc 0 l = false) := by show acc 0 l = false; simpa using hp
      have H1 : Hid (acc 1 l = false) := acc1_of_no HP.out
      clear hp
      refine (zz_at7 w4 _ l.length l.length l false (by omega) T24 rfl HP.out).mono ?_
      rintro e w5 ⟨rfl, hb5⟩
      have T25 := T24.later hb5 (Nat.le_refl _)
      have T35 := T34.later hb5 (Nat.le_refl _)
      have T45 := T4.later hb5 (Nat.le_refl _)
      have hc5 := below_next hc4 (Nat.le_refl _) hb5
      clear T24 T34 T4 hc4 hb5
      go_wp2_with fail
      refine (leading_any w5 _ l.length l (by omega) (Nat.le_refl _) (by omega) T25 (fun h => by cases h)).mono ?_
      rintro e w6 ⟨⟨a', cap', rfl, TR⟩, rfl⟩
      have hrl : (run l).length ≤ l.length := by have := run_le (l := l) (k := sp l 0) rfl; omega
      go_wp2_with fail
      refine (zz_at7 _ _ _ _ (43 :: l) false (by simp; omega) T35 rfl ((acc_plus l).trans H1.out)).mono ?_
      rintro e w7 ⟨rfl, hb7⟩
      have T47 := T45.later hb7 (Nat.le_refl _)
      have TR7 := TR.later hb7 (Nat.le_refl _)
      have hc7 := below_next hc5 (Nat.le_refl _) hb7
      clear T45 TR T35 T25 hc5 hb7
      go_wp2_with fail
      refine (zz_at7 _ _ _ _ (45 :: l) false (by simp; omega) T47 rfl ((acc_minus l).trans H1.out)).mono ?_
      rintro e w8 ⟨rfl, hb8⟩
      have TR8 := TR7.later hb8 (Nat.le_refl _)
      have hc8 := below_next hc7 (Nat.le_refl _) hb8
      clear T47 TR7 hc7 hb8
      go_wp2_with fail
      by_cases hr : 0 < (run l).length
      · refine (zz_at7 _ _ _ _ (run l) true (by omega) TR8 rfl ((acc_run_at l).trans (decide_eq_true hr))).mono ?_
        rintro e w9 ⟨rfl, hb9⟩
        go_wp2_with fail
        go_ret
        exact ⟨rfl, below_next hc8 (Nat.le_refl _) hb9⟩
      · refine (zz_at7 _ _ _ _ (run l) false (by omega) TR8 rfl ((acc_run_at l).trans (decide_eq_false hr))).mono ?_
        rintro e w9 ⟨rfl, hb9⟩
        go_wp2_with fail
        go_ret
        exact ⟨rfl, below_next hc8 (Nat.le_refl _) hb9⟩
  · go_ret
    exact ⟨rfl, Below.refl _ _⟩

set_option maxHeartbeats 2000000 in
theorem walkS_nil (w : World) :
    Calls Try.prog 5 #[.slice none 0 0] w fun e w' => e = .returned (.bool true) ∧ Below w.heap.size w w' := by
  have T : Text w none [] := fun j hj => by simp at hj
  go_enter Try.func5, Try.ntmps5
  go_wp2_with (first | (go_at_call 13; refine (zzBytesP_any none 0 0 _ (by unfold maxLen; omega)).mono ?_; rintro e w' ⟨⟨rfl, hsum⟩ | rfl, rfl⟩) | fail)
  · refine (prefix_any w' 43 none 0 [] (by simp) T).mono ?_
    rintro e w3 ⟨rfl, T3, hb3⟩
    have T23 := T.later hb3 (Nat.le_refl _)
    have hc3 := below_next (Below.refl _ _) (Nat.le_refl _) hb3
    clear T hb3
    go_wp2_with fail
    refine (prefix_any w3 45 none 0 [] (by simp) T23).mono ?_
    rintro e w4 ⟨rfl, T4, hb4⟩
    have T24 := T23.later hb4 (Nat.le_refl _)
    have T34 := T3.later hb4 (Nat.le_refl _)
    have hc4 := below_next hc3 (Nat.le_refl _) hb4
    clear T23 T3 hc3 hb4
    go_wp2_with fail
    refine (zz_at7 w4 none 0 0 [] false (by simp) T24 rfl rfl).mono ?_
    rintro e w5 ⟨rfl, hb5⟩
    have T25 := T24.later hb5 (Nat.le_refl _)
    have T35 := T34.later hb5 (Nat.le_refl _)
    have T45 := T4.later hb5 (Nat.le_refl _)
    have hc5 := below_next hc4 (Nat.le_refl _) hb5
    clear T24 T34 T4 hc4 hb5
    go_wp2_with fail
    refine (leading_any w5 none 0 [] (by simp) (Nat.le_refl _) (by simp) T25 (fun _ => rfl)).mono ?_
    rintro e w6 ⟨⟨a', cap', rfl, TR⟩, rfl⟩
    go_wp2_with fail
    refine (zz_at7 _ _ _ _ [43] false (by simp) T35 rfl rfl).mono ?_
    rintro e w7 ⟨rfl, hb7⟩
    have T47 := T45.later hb7 (Nat.le_refl _)
    have TR7 := TR.later hb7 (Nat.le_refl _)
    have hc7 := below_next hc5 (Nat.le_refl _) hb7
    clear T45 TR T35 T25 hc5 hb7
    go_wp2_with fail
    refine (zz_at7 _ _ _ _ [45] false (by simp) T47 rfl rfl).mono ?_
    rintro e w8 ⟨rfl, hb8⟩
    have TR8 := TR7.later hb8 (Nat.le_refl _)
    have hc8 := below_next hc7 (Nat.le_refl _) hb8
    clear T47 TR7 hc7 hb8
    go_wp2_with fail
    refine (zz_at7 _ _ _ _ (run []) false (by simp [run]) TR8 rfl rfl).mono ?_
    rintro e w9 ⟨rfl, hb9⟩
    go_wp2_with fail
    go_ret
    exact ⟨rfl, below_next hc8 (Nat.le_refl _) hb9⟩
  · go_ret
    exact ⟨rfl, Below.refl _ _⟩

set_option maxHeartbeats 2000000 in
theorem walkS_long (w : World) (a : Option Addr) (n cap : Nat) (hn : n ≤ maxLen) (hl : 1048576 < n) :
    Calls Try.prog 5 #[.slice a n cap] w fun e w' => e = .returned (.bool true) ∧ Below w.heap.size w w' := by
  go_enter Try.func5, Try.ntmps5
  go_wp2_with (first | (go_at_call 13; refine (zzBytesP_any a n cap _ hn).mono ?_; rintro e w' ⟨⟨rfl, hsum⟩ | rfl, rfl⟩; try (exfalso; omega)) | fail)
  all_goals first | (exfalso; omega) | (go_ret; exact ⟨rfl, Below.refl _ _⟩)

theorem walkS (a : Option Addr) (len cap : Nat) (zs : List Int) (w : World)
    (h : (a = none ∧ len = 0 ∧ cap = 0 ∧ zs = []) ∨ ∃ x, a = some x ∧ len ≤ cap ∧ cap ≤ maxLen ∧ zs.length = cap ∧ (∀ i, i < zs.length → w.cell? (x.add i) = some (.int .u8 (zs.getD i 0))) ∧ ∀ n ∈ zs, (Lit.int .u8 n).wf = true) :
    Calls Try.prog 5 #[.slice a len cap] w fun e w' => e = .returned (.bool true) ∧ Below w.heap.size w w' := by
  rcases h with ⟨rfl, rfl, rfl, rfl⟩ | ⟨x, rfl, h1, h2, h3, h4, _⟩
  · exact walkS_nil w
  · by_cases hl : len ≤ 1048576
    · have T := text_of_cells len (by omega) h4
      have e : (zs.take len).length = len := by rw [List.length_take]; omega
      have k := walkS_some w x cap (zs.take len) (by omega) T
      rwa [e] at k
    · exact walkS_long w (some x) len cap (by omega) (by omega)

end Go.Proofs.Qxb6618080a
