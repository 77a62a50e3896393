/-
  The walk of FnIsDecimalSplitsAtExponent.
-/
import Derived.Test.Qxb6618080aRows
import Derived.WalkKit
import Derived.WalkSpells
import Derived.WalkLawsBesides
import Derived.Deep.OwnRows
import Derived.Test.Qxb6618080aPlainS
import Derived.Test.Qxb6618080aWalkX
import Derived.Test.Qxb6618080aCopy
namespace Go.Proofs.Qxb6618080a.Split
open Go.RowKit
open Go.Proofs.Qxb6618080a.Plain

theorem dec_at (w : World) (a : Option Addr) (n cap : Nat) (l : List Int) (b : Bool) (hl : l.length ≤ 2097153) (T : Text w a l) (hn : l.length = n) (hb : acc 0 l = b) :
    Calls Try.prog 7 #[.slice a n cap] w fun e w' => e = .returned (.bool b) ∧ Below w.heap.size w w' := by
  rw [← hn, ← hb]; exact zzIsDecimal_any w a cap l hl T
theorem has_at (w : World) (a : Option Addr) (n cap : Nat) (l : List Int) (c : Int) (b : Bool) (hl : l.length ≤ 2097153) (T : Text w a l) (hn : l.length = n) (hb : hasB l c = b) :
    Calls Try.prog 11 #[.slice a n cap, .int .u8 c] w fun e w' => e = .returned (.bool b) ∧ w' = w := by
  rw [← hn, ← hb]; exact has_any w a cap l c hl T
theorem lead_at (w : World) (a : Option Addr) (n cap : Nat) (l : List Int) (hl : l.length ≤ 2097153) (hcap : n ≤ cap) (hcm : cap ≤ 2097153) (T : Text w a l) (hn : l.length = n) (hnil : a = none → cap = 0) :
    Calls Try.prog 12 #[.slice a n cap] w fun e w' => RunRes w l e ∧ w' = w := by
  rw [← hn]; exact leading_any w a cap l hl (by omega) hcm T hnil
theorem join_at (w : World) (c : Int) (a1 a2 : Option Addr) (n1 cap1 n2 cap2 : Nat) (l m : List Int) (hl : l.length ≤ 524288) (hm : m.length ≤ 524288) (T : Text w a1 l) (U : Text w a2 m) (h1 : l.length = n1) (h2 : m.length = n2) :
    Calls Try.prog 10 #[.slice a1 n1 cap1, .int .u8 c, .slice a2 n2 cap2] w fun e w' => e = .returned (.slice (some ⟨w.heap.size, 0, none⟩) (l ++ c :: m).length (l ++ c :: m).length) ∧ Text w' (some ⟨w.heap.size, 0, none⟩) (l ++ c :: m) ∧ Below w.heap.size w w' := by
  have e : (l ++ c :: m).length = l.length + 1 + m.length := by simp; omega
  rw [← h1, ← h2, e]; exact join_any w c a1 a2 cap1 cap2 l m hl hm T U

theorem acc_run_at (l : List Int) : acc 0 (run l) = decide (0 < (run l).length) := acc_run _ (takeWhile_all _)
theorem run_short (l : List Int) : (run l).length ≤ l.length := by have := run_le (l := l) (k := sp l 0) rfl; omega

theorem below_next {B : Nat} {w w1 w2 : World} (h : Below B w w1) (hB : B ≤ w.heap.size) (k : Below w1.heap.size w1 w2) : Below B w w2 :=
  h.trans (k.mono (Nat.le_trans hB h.size))
theorem below_two {w w1 w2 : World} (h : Below w.heap.size w w1) (k : Below w1.heap.size w1 w2) : Below w.heap.size w w2 :=
  below_next h (Nat.le_refl _) k

set_option maxHeartbeats 8000000 in
theorem walkX_ss (w : World) (x : Addr) (capm : Nat) (lm : List Int) (hlm : lm.length ≤ 524288) (T : Text w (some x) lm) (y : Addr) (capx : Nat) (lx : List Int) (hlx : lx.length ≤ 524288) (U : Text w (some y) lx) :
    Calls Try.prog 4 #[.slice (some x) lm.length capm, .slice (some y) lx.length capx] w fun e w' => e = .returned (.bool true) ∧ Below w.heap.size w w' := by
  have hmk := run_make_row' (P := Try.prog) 22 5 (.int .u8 0) 1 Try.underlying22 Try.info5 rfl .i64 .i64 lm.length (by omega) (by omega)
  obtain ⟨W2, hcp, Tm, hc⟩ := copy_in w x capm lm T
  have hmk2 := run_make_row' (P := Try.prog) 22 5 (.int .u8 0) 1 Try.underlying22 Try.info5 rfl .i64 .i64 lx.length (by omega) (by omega)
  have U2 := U.later hc (Nat.le_refl _)
  obtain ⟨W3, hcp2, Tx, hc3⟩ := copy_in W2 y capx lx U2
  replace Tm := Tm.later hc3 (Nat.le_refl _)
  replace hc := below_two hc hc3
  clear hc3 U2
  go_enter Try.func4, Try.ntmps4
  go_wp2_with (first | (go_at_call 9; refine (zzBytesX_any (some x) (some y) lm.length capm lx.length capx _ (by unfold maxLen; omega) (by unfold maxLen; omega)).mono ?_; rintro e w' ⟨⟨rfl, hsum⟩ | rfl, rfl⟩) | fail)
  · refine (join_at _ 101 _ _ _ _ _ _ lm lx (by first | omega | simp) (by first | omega | simp) Tm Tx rfl rfl).mono ?_
    rintro e w3 ⟨rfl, TL, hb3⟩
    replace Tm := Tm.later hb3 (Nat.le_refl _)
    replace Tx := Tx.later hb3 (Nat.le_refl _)
    replace hc := below_two hc hb3
    clear hb3 hmk hcp T hmk2 hcp2 U
    go_wp2_with fail
    refine (join_at _ 69 _ _ _ _ _ _ lm lx (by first | omega | simp) (by first | omega | simp) Tm Tx rfl rfl).mono ?_
    rintro e w4 ⟨rfl, TU, hb4⟩
    replace Tm := Tm.later hb4 (Nat.le_refl _)
    replace Tx := Tx.later hb4 (Nat.le_refl _)
    replace TL := TL.later hb4 (Nat.le_refl _)
    replace hc := below_two hc hb4
    clear hb4
    go_wp2_with fail
    by_cases q0 : acc 0 lm = true
    · have Q0 : Hid (acc 0 lm = true) := by show acc 0 lm = true; simpa using q0
      clear q0
      refine (dec_at _ _ _ _ lm true (by first | omega | simp) Tm rfl Q0.out).mono ?_
      rintro e w5 ⟨rfl, hb5⟩
      replace Tm := Tm.later hb5 (Nat.le_refl _)
      replace Tx := Tx.later hb5 (Nat.le_refl _)
      replace TL := TL.later hb5 (Nat.le_refl _)
      replace TU := TU.later hb5 (Nat.le_refl _)
      replace hc := below_two hc hb5
      clear hb5
      go_wp2_with fail
      by_cases q1 : hasB lm 101 = true
      · have Q1 : Hid (hasB lm 101 = true) := by show hasB lm 101 = true; simpa using q1
        clear q1
        refine (has_at _ _ _ _ lm 101 true (by first | omega | simp) Tm rfl Q1.out).mono ?_
        rintro e w5 ⟨rfl, rfl⟩
        have HW : Hid (wantB lm lx = false) := by show wantB lm lx = false; simp [wantB, Q0.out, Q1.out]
        have HL : Hid (acc 0 (lm ++ 101 :: lx) = false) := (acc_split lm lx 101 (by decide)).trans HW.out
        have HU : Hid (acc 0 (lm ++ 69 :: lx) = false) := (acc_split lm lx 69 (by decide)).trans HW.out
        clear HW
        go_wp2_with fail
        refine (lead_at _ _ _ _ lm (by first | omega | simp) (Nat.le_refl _) (by first | omega | simp) Tm rfl (by intro h; cases h <;> rfl)).mono ?_
        rintro e w6 ⟨⟨a', cap', rfl, TR⟩, rfl⟩
        go_wp2_with fail
        refine (dec_at _ _ _ _ (lm ++ 101 :: lx) false (by first | (simp; done) | (simp; omega)) TL (by first | rfl | simp) HL.out).mono ?_
        rintro e w7 ⟨rfl, hb7⟩
        have TU7 := TU.later hb7 (Nat.le_refl _)
        have TR7 := TR.later hb7 (Nat.le_refl _)
        have hc7 := below_two hc hb7
        clear TU TR TL Tm Tx hc hb7
        go_wp2_with fail
        refine (dec_at _ _ _ _ (lm ++ 69 :: lx) false (by first | (simp; done) | (simp; omega)) TU7 (by first | rfl | simp) HU.out).mono ?_
        rintro e w8 ⟨rfl, hb8⟩
        have TR8 := TR7.later hb8 (Nat.le_refl _)
        have hc8 := below_two hc7 hb8
        clear TU7 TR7 hc7 hb8
        go_wp2_with fail
        by_cases hr : 0 < (run lm).length
        · refine (dec_at _ _ _ _ (run lm) true (by have := run_short lm; first | omega | simp [run]) TR8 rfl ((acc_run_at lm).trans (decide_eq_true hr))).mono ?_
          rintro e w9 ⟨rfl, hb9⟩
          go_wp2_with fail
          go_ret
          exact ⟨rfl, below_two hc8 hb9⟩
        · refine (dec_at _ _ _ _ (run lm) false (by have := run_short lm; first | omega | simp [run]) TR8 rfl ((acc_run_at lm).trans (decide_eq_false hr))).mono ?_
          rintro e w9 ⟨rfl, hb9⟩
          go_wp2_with fail
          go_ret
          exact ⟨rfl, below_two hc8 hb9⟩
      · have Q1 : Hid (hasB lm 101 = false) := by show hasB lm 101 = false; simpa using q1
        clear q1
        refine (has_at _ _ _ _ lm 101 false (by first | omega | simp) Tm rfl Q1.out).mono ?_
        rintro e w5 ⟨rfl, rfl⟩
        go_wp2_with fail
        by_cases q2 : hasB lm 69 = true
        · have Q2 : Hid (hasB lm 69 = true) := by show hasB lm 69 = true; simpa using q2
          clear q2
          refine (has_at _ _ _ _ lm 69 true (by first | omega | simp) Tm rfl Q2.out).mono ?_
          rintro e w5 ⟨rfl, rfl⟩
          have HW : Hid (wantB lm lx = false) := by show wantB lm lx = false; simp [wantB, Q0.out, Q1.out, Q2.out]
          have HL : Hid (acc 0 (lm ++ 101 :: lx) = false) := (acc_split lm lx 101 (by decide)).trans HW.out
          have HU : Hid (acc 0 (lm ++ 69 :: lx) = false) := (acc_split lm lx 69 (by decide)).trans HW.out
          clear HW
          go_wp2_with fail
          refine (lead_at _ _ _ _ lm (by first | omega | simp) (Nat.le_refl _) (by first | omega | simp) Tm rfl (by intro h; cases h <;> rfl)).mono ?_
          rintro e w6 ⟨⟨a', cap', rfl, TR⟩, rfl⟩
          go_wp2_with fail
          refine (dec_at _ _ _ _ (lm ++ 101 :: lx) false (by first | (simp; done) | (simp; omega)) TL (by first | rfl | simp) HL.out).mono ?_
          rintro e w7 ⟨rfl, hb7⟩
          have TU7 := TU.later hb7 (Nat.le_refl _)
          have TR7 := TR.later hb7 (Nat.le_refl _)
          have hc7 := below_two hc hb7
          clear TU TR TL Tm Tx hc hb7
          go_wp2_with fail
          refine (dec_at _ _ _ _ (lm ++ 69 :: lx) false (by first | (simp; done) | (simp; omega)) TU7 (by first | rfl | simp) HU.out).mono ?_
          rintro e w8 ⟨rfl, hb8⟩
          have TR8 := TR7.later hb8 (Nat.le_refl _)
          have hc8 := below_two hc7 hb8
          clear TU7 TR7 hc7 hb8
          go_wp2_with fail
          by_cases hr : 0 < (run lm).length
          · refine (dec_at _ _ _ _ (run lm) true (by have := run_short lm; first | omega | simp [run]) TR8 rfl ((acc_run_at lm).trans (decide_eq_true hr))).mono ?_
            rintro e w9 ⟨rfl, hb9⟩
            go_wp2_with fail
            go_ret
            exact ⟨rfl, below_two hc8 hb9⟩
          · refine (dec_at _ _ _ _ (run lm) false (by have := run_short lm; first | omega | simp [run]) TR8 rfl ((acc_run_at lm).trans (decide_eq_false hr))).mono ?_
            rintro e w9 ⟨rfl, hb9⟩
            go_wp2_with fail
            go_ret
            exact ⟨rfl, below_two hc8 hb9⟩
        · have Q2 : Hid (hasB lm 69 = false) := by show hasB lm 69 = false; simpa using q2
          clear q2
          refine (has_at _ _ _ _ lm 69 false (by first | omega | simp) Tm rfl Q2.out).mono ?_
          rintro e w5 ⟨rfl, rfl⟩
          go_wp2_with fail
          by_cases q3 : acc 0 lx = true
          · have Q3 : Hid (acc 0 lx = true) := by show acc 0 lx = true; simpa using q3
            clear q3
            refine (dec_at _ _ _ _ lx true (by first | omega | simp) Tx rfl Q3.out).mono ?_
            rintro e w5 ⟨rfl, hb5⟩
            replace Tm := Tm.later hb5 (Nat.le_refl _)
            replace Tx := Tx.later hb5 (Nat.le_refl _)
            replace TL := TL.later hb5 (Nat.le_refl _)
            replace TU := TU.later hb5 (Nat.le_refl _)
            replace hc := below_two hc hb5
            clear hb5
            go_wp2_with fail
            by_cases q4 : hasB lx 46 = true
            · have Q4 : Hid (hasB lx 46 = true) := by show hasB lx 46 = true; simpa using q4
              clear q4
              refine (has_at _ _ _ _ lx 46 true (by first | omega | simp) Tx rfl Q4.out).mono ?_
              rintro e w5 ⟨rfl, rfl⟩
              have HW : Hid (wantB lm lx = false) := by show wantB lm lx = false; simp [wantB, Q0.out, Q1.out, Q2.out, Q3.out, Q4.out]
              have HL : Hid (acc 0 (lm ++ 101 :: lx) = false) := (acc_split lm lx 101 (by decide)).trans HW.out
              have HU : Hid (acc 0 (lm ++ 69 :: lx) = false) := (acc_split lm lx 69 (by decide)).trans HW.out
              clear HW
              go_wp2_with fail
              refine (lead_at _ _ _ _ lm (by first | omega | simp) (Nat.le_refl _) (by first | omega | simp) Tm rfl (by intro h; cases h <;> rfl)).mono ?_
              rintro e w6 ⟨⟨a', cap', rfl, TR⟩, rfl⟩
              go_wp2_with fail
              refine (dec_at _ _ _ _ (lm ++ 101 :: lx) false (by first | (simp; done) | (simp; omega)) TL (by first | rfl | simp) HL.out).mono ?_
              rintro e w7 ⟨rfl, hb7⟩
              have TU7 := TU.later hb7 (Nat.le_refl _)
              have TR7 := TR.later hb7 (Nat.le_refl _)
              have hc7 := below_two hc hb7
              clear TU TR TL Tm Tx hc hb7
              go_wp2_with fail
              refine (dec_at _ _ _ _ (lm ++ 69 :: lx) false (by first | (simp; done) | (simp; omega)) TU7 (by first | rfl | simp) HU.out).mono ?_
              rintro e w8 ⟨rfl, hb8⟩
              have TR8 := TR7.later hb8 (Nat.le_refl _)
              have hc8 := below_two hc7 hb8
              clear TU7 TR7 hc7 hb8
              go_wp2_with fail
              by_cases hr : 0 < (run lm).length
              · refine (dec_at _ _ _ _ (run lm) true (by have := run_short lm; first | omega | simp [run]) TR8 rfl ((acc_run_at lm).trans (decide_eq_true hr))).mono ?_
                rintro e w9 ⟨rfl, hb9⟩
                go_wp2_with fail
                go_ret
                exact ⟨rfl, below_two hc8 hb9⟩
              · refine (dec_at _ _ _ _ (run lm) false (by have := run_short lm; first | omega | simp [run]) TR8 rfl ((acc_run_at lm).trans (decide_eq_false hr))).mono ?_
                rintro e w9 ⟨rfl, hb9⟩
                go_wp2_with fail
                go_ret
                exact ⟨rfl, below_two hc8 hb9⟩
            · have Q4 : Hid (hasB lx 46 = false) := by show hasB lx 46 = false; simpa using q4
              clear q4
              refine (has_at _ _ _ _ lx 46 false (by first | omega | simp) Tx rfl Q4.out).mono ?_
              rintro e w5 ⟨rfl, rfl⟩
              go_wp2_with fail
              by_cases q5 : hasB lx 101 = true
              · have Q5 : Hid (hasB lx 101 = true) := by show hasB lx 101 = true; simpa using q5
                clear q5
                refine (has_at _ _ _ _ lx 101 true (by first | omega | simp) Tx rfl Q5.out).mono ?_
                rintro e w5 ⟨rfl, rfl⟩
                have HW : Hid (wantB lm lx = false) := by show wantB lm lx = false; simp [wantB, Q0.out, Q1.out, Q2.out, Q3.out, Q4.out, Q5.out]
                have HL : Hid (acc 0 (lm ++ 101 :: lx) = false) := (acc_split lm lx 101 (by decide)).trans HW.out
                have HU : Hid (acc 0 (lm ++ 69 :: lx) = false) := (acc_split lm lx 69 (by decide)).trans HW.out
                clear HW
                go_wp2_with fail
                refine (lead_at _ _ _ _ lm (by first | omega | simp) (Nat.le_refl _) (by first | omega | simp) Tm rfl (by intro h; cases h <;> rfl)).mono ?_
                rintro e w6 ⟨⟨a', cap', rfl, TR⟩, rfl⟩
                go_wp2_with fail
                refine (dec_at _ _ _ _ (lm ++ 101 :: lx) false (by first | (simp; done) | (simp; omega)) TL (by first | rfl | simp) HL.out).mono ?_
                rintro e w7 ⟨rfl, hb7⟩
                have TU7 := TU.later hb7 (Nat.le_refl _)
                have TR7 := TR.later hb7 (Nat.le_refl _)
                have hc7 := below_two hc hb7
                clear TU TR TL Tm Tx hc hb7
                go_wp2_with fail
                refine (dec_at _ _ _ _ (lm ++ 69 :: lx) false (by first | (simp; done) | (simp; omega)) TU7 (by first | rfl | simp) HU.out).mono ?_
                rintro e w8 ⟨rfl, hb8⟩
                have TR8 := TR7.later hb8 (Nat.le_refl _)
                have hc8 := below_two hc7 hb8
                clear TU7 TR7 hc7 hb8
                go_wp2_with fail
                by_cases hr : 0 < (run lm).length
                · refine (dec_at _ _ _ _ (run lm) true (by have := run_short lm; first | omega | simp [run]) TR8 rfl ((acc_run_at lm).trans (decide_eq_true hr))).mono ?_
                  rintro e w9 ⟨rfl, hb9⟩
                  go_wp2_with fail
                  go_ret
                  exact ⟨rfl, below_two hc8 hb9⟩
                · refine (dec_at _ _ _ _ (run lm) false (by have := run_short lm; first | omega | simp [run]) TR8 rfl ((acc_run_at lm).trans (decide_eq_false hr))).mono ?_
                  rintro e w9 ⟨rfl, hb9⟩
                  go_wp2_with fail
                  go_ret
                  exact ⟨rfl, below_two hc8 hb9⟩
              · have Q5 : Hid (hasB lx 101 = false) := by show hasB lx 101 = false; simpa using q5
                clear q5
                refine (has_at _ _ _ _ lx 101 false (by first | omega | simp) Tx rfl Q5.out).mono ?_
                rintro e w5 ⟨rfl, rfl⟩
                go_wp2_with fail
                by_cases q6 : hasB lx 69 = true
                · have Q6 : Hid (hasB lx 69 = true) := by show hasB lx 69 = true; simpa using q6
                  clear q6
                  refine (has_at _ _ _ _ lx 69 true (by first | omega | simp) Tx rfl Q6.out).mono ?_
                  rintro e w5 ⟨rfl, rfl⟩
                  have HW : Hid (wantB lm lx = false) := by show wantB lm lx = false; simp [wantB, Q0.out, Q1.out, Q2.out, Q3.out, Q4.out, Q5.out, Q6.out]
                  have HL : Hid (acc 0 (lm ++ 101 :: lx) = false) := (acc_split lm lx 101 (by decide)).trans HW.out
                  have HU : Hid (acc 0 (lm ++ 69 :: lx) = false) := (acc_split lm lx 69 (by decide)).trans HW.out
                  clear HW
                  go_wp2_with fail
                  refine (lead_at _ _ _ _ lm (by first | omega | simp) (Nat.le_refl _) (by first | omega | simp) Tm rfl (by intro h; cases h <;> rfl)).mono ?_
                  rintro e w6 ⟨⟨a', cap', rfl, TR⟩, rfl⟩
                  go_wp2_with fail
                  refine (dec_at _ _ _ _ (lm ++ 101 :: lx) false (by first | (simp; done) | (simp; omega)) TL (by first | rfl | simp) HL.out).mono ?_
                  rintro e w7 ⟨rfl, hb7⟩
                  have TU7 := TU.later hb7 (Nat.le_refl _)
                  have TR7 := TR.later hb7 (Nat.le_refl _)
                  have hc7 := below_two hc hb7
                  clear TU TR TL Tm Tx hc hb7
                  go_wp2_with fail
                  refine (dec_at _ _ _ _ (lm ++ 69 :: lx) false (by first | (simp; done) | (simp; omega)) TU7 (by first | rfl | simp) HU.out).mono ?_
                  rintro e w8 ⟨rfl, hb8⟩
                  have TR8 := TR7.later hb8 (Nat.le_refl _)
                  have hc8 := below_two hc7 hb8
                  clear TU7 TR7 hc7 hb8
                  go_wp2_with fail
                  by_cases hr : 0 < (run lm).length
                  · refine (dec_at _ _ _ _ (run lm) true (by have := run_short lm; first | omega | simp [run]) TR8 rfl ((acc_run_at lm).trans (decide_eq_true hr))).mono ?_
                    rintro e w9 ⟨rfl, hb9⟩
                    go_wp2_with fail
                    go_ret
                    exact ⟨rfl, below_two hc8 hb9⟩
                  · refine (dec_at _ _ _ _ (run lm) false (by have := run_short lm; first | omega | simp [run]) TR8 rfl ((acc_run_at lm).trans (decide_eq_false hr))).mono ?_
                    rintro e w9 ⟨rfl, hb9⟩
                    go_wp2_with fail
                    go_ret
                    exact ⟨rfl, below_two hc8 hb9⟩
                · have Q6 : Hid (hasB lx 69 = false) := by show hasB lx 69 = false; simpa using q6
                  clear q6
                  refine (has_at _ _ _ _ lx 69 false (by first | omega | simp) Tx rfl Q6.out).mono ?_
                  rintro e w5 ⟨rfl, rfl⟩
                  have HW : Hid (wantB lm lx = true) := by show wantB lm lx = true; unfold wantB; rw [Q0.out, Q1.out, Q2.out, Q3.out, Q4.out, Q5.out, Q6.out]; rfl
                  have HL : Hid (acc 0 (lm ++ 101 :: lx) = true) := (acc_split lm lx 101 (by decide)).trans HW.out
                  have HU : Hid (acc 0 (lm ++ 69 :: lx) = true) := (acc_split lm lx 69 (by decide)).trans HW.out
                  clear HW
                  go_wp2_with fail
                  refine (lead_at _ _ _ _ lm (by first | omega | simp) (Nat.le_refl _) (by first | omega | simp) Tm rfl (by intro h; cases h <;> rfl)).mono ?_
                  rintro e w6 ⟨⟨a', cap', rfl, TR⟩, rfl⟩
                  go_wp2_with fail
                  refine (dec_at _ _ _ _ (lm ++ 101 :: lx) true (by first | (simp; done) | (simp; omega)) TL (by first | rfl | simp) HL.out).mono ?_
                  rintro e w7 ⟨rfl, hb7⟩
                  have TU7 := TU.later hb7 (Nat.le_refl _)
                  have TR7 := TR.later hb7 (Nat.le_refl _)
                  have hc7 := below_two hc hb7
                  clear TU TR TL Tm Tx hc hb7
                  go_wp2_with fail
                  refine (dec_at _ _ _ _ (lm ++ 69 :: lx) true (by first | (simp; done) | (simp; omega)) TU7 (by first | rfl | simp) HU.out).mono ?_
                  rintro e w8 ⟨rfl, hb8⟩
                  have TR8 := TR7.later hb8 (Nat.le_refl _)
                  have hc8 := below_two hc7 hb8
                  clear TU7 TR7 hc7 hb8
                  go_wp2_with fail
                  by_cases hr : 0 < (run lm).length
                  · refine (dec_at _ _ _ _ (run lm) true (by have := run_short lm; first | omega | simp [run]) TR8 rfl ((acc_run_at lm).trans (decide_eq_true hr))).mono ?_
                    rintro e w9 ⟨rfl, hb9⟩
                    go_wp2_with fail
                    go_ret
                    exact ⟨rfl, below_two hc8 hb9⟩
                  · refine (dec_at _ _ _ _ (run lm) false (by have := run_short lm; first | omega | simp [run]) TR8 rfl ((acc_run_at lm).trans (decide_eq_false hr))).mono ?_
                    rintro e w9 ⟨rfl, hb9⟩
                    go_wp2_with fail
                    go_ret
                    exact ⟨rfl, below_two hc8 hb9⟩
          · have Q3 : Hid (acc 0 lx = false) := by show acc 0 lx = false; simpa using q3
            clear q3
            refine (dec_at _ _ _ _ lx false (by first | omega | simp) Tx rfl Q3.out).mono ?_
            rintro e w5 ⟨rfl, hb5⟩
            replace Tm := Tm.later hb5 (Nat.le_refl _)
            replace Tx := Tx.later hb5 (Nat.le_refl _)
            replace TL := TL.later hb5 (Nat.le_refl _)
            replace TU := TU.later hb5 (Nat.le_refl _)
            replace hc := below_two hc hb5
            clear hb5
            have HW : Hid (wantB lm lx = false) := by show wantB lm lx = false; simp [wantB, Q0.out, Q1.out, Q2.out, Q3.out]
            have HL : Hid (acc 0 (lm ++ 101 :: lx) = false) := (acc_split lm lx 101 (by decide)).trans HW.out
            have HU : Hid (acc 0 (lm ++ 69 :: lx) = false) := (acc_split lm lx 69 (by decide)).trans HW.out
            clear HW
            go_wp2_with fail
            refine (lead_at _ _ _ _ lm (by first | omega | simp) (Nat.le_refl _) (by first | omega | simp) Tm rfl (by intro h; cases h <;> rfl)).mono ?_
            rintro e w6 ⟨⟨a', cap', rfl, TR⟩, rfl⟩
            go_wp2_with fail
            refine (dec_at _ _ _ _ (lm ++ 101 :: lx) false (by first | (simp; done) | (simp; omega)) TL (by first | rfl | simp) HL.out).mono ?_
            rintro e w7 ⟨rfl, hb7⟩
            have TU7 := TU.later hb7 (Nat.le_refl _)
            have TR7 := TR.later hb7 (Nat.le_refl _)
            have hc7 := below_two hc hb7
            clear TU TR TL Tm Tx hc hb7
            go_wp2_with fail
            refine (dec_at _ _ _ _ (lm ++ 69 :: lx) false (by first | (simp; done) | (simp; omega)) TU7 (by first | rfl | simp) HU.out).mono ?_
            rintro e w8 ⟨rfl, hb8⟩
            have TR8 := TR7.later hb8 (Nat.le_refl _)
            have hc8 := below_two hc7 hb8
            clear TU7 TR7 hc7 hb8
            go_wp2_with fail
            by_cases hr : 0 < (run lm).length
            · refine (dec_at _ _ _ _ (run lm) true (by have := run_short lm; first | omega | simp [run]) TR8 rfl ((acc_run_at lm).trans (decide_eq_true hr))).mono ?_
              rintro e w9 ⟨rfl, hb9⟩
              go_wp2_with fail
              go_ret
              exact ⟨rfl, below_two hc8 hb9⟩
            · refine (dec_at _ _ _ _ (run lm) false (by have := run_short lm; first | omega | simp [run]) TR8 rfl ((acc_run_at lm).trans (decide_eq_false hr))).mono ?_
              rintro e w9 ⟨rfl, hb9⟩
              go_wp2_with fail
              go_ret
              exact ⟨rfl, below_two hc8 hb9⟩
    · have Q0 : Hid (acc 0 lm = false) := by show acc 0 lm = false; simpa using q0
      clear q0
      refine (dec_at _ _ _ _ lm false (by first | omega | simp) Tm rfl Q0.out).mono ?_
      rintro e w5 ⟨rfl, hb5⟩
      replace Tm := Tm.later hb5 (Nat.le_refl _)
      replace Tx := Tx.later hb5 (Nat.le_refl _)
      replace TL := TL.later hb5 (Nat.le_refl _)
      replace TU := TU.later hb5 (Nat.le_refl _)
      replace hc := below_two hc hb5
      clear hb5
      have HW : Hid (wantB lm lx = false) := by show wantB lm lx = false; simp [wantB, Q0.out]
      have HL : Hid (acc 0 (lm ++ 101 :: lx) = false) := (acc_split lm lx 101 (by decide)).trans HW.out
      have HU : Hid (acc 0 (lm ++ 69 :: lx) = false) := (acc_split lm lx 69 (by decide)).trans HW.out
      clear HW
      go_wp2_with fail
      refine (lead_at _ _ _ _ lm (by first | omega | simp) (Nat.le_refl _) (by first | omega | simp) Tm rfl (by intro h; cases h <;> rfl)).mono ?_
      rintro e w6 ⟨⟨a', cap', rfl, TR⟩, rfl⟩
      go_wp2_with fail
      refine (dec_at _ _ _ _ (lm ++ 101 :: lx) false (by first | (simp; done) | (simp; omega)) TL (by first | rfl | simp) HL.out).mono ?_
      rintro e w7 ⟨rfl, hb7⟩
      have TU7 := TU.later hb7 (Nat.le_refl _)
      have TR7 := TR.later hb7 (Nat.le_refl _)
      have hc7 := below_two hc hb7
      clear TU TR TL Tm Tx hc hb7
      go_wp2_with fail
      refine (dec_at _ _ _ _ (lm ++ 69 :: lx) false (by first | (simp; done) | (simp; omega)) TU7 (by first | rfl | simp) HU.out).mono ?_
      rintro e w8 ⟨rfl, hb8⟩
      have TR8 := TR7.later hb8 (Nat.le_refl _)
      have hc8 := below_two hc7 hb8
      clear TU7 TR7 hc7 hb8
      go_wp2_with fail
      by_cases hr : 0 < (run lm).length
      · refine (dec_at _ _ _ _ (run lm) true (by have := run_short lm; first | omega | simp [run]) TR8 rfl ((acc_run_at lm).trans (decide_eq_true hr))).mono ?_
        rintro e w9 ⟨rfl, hb9⟩
        go_wp2_with fail
        go_ret
        exact ⟨rfl, below_two hc8 hb9⟩
      · refine (dec_at _ _ _ _ (run lm) false (by have := run_short lm; first | omega | simp [run]) TR8 rfl ((acc_run_at lm).trans (decide_eq_false hr))).mono ?_
        rintro e w9 ⟨rfl, hb9⟩
        go_wp2_with fail
        go_ret
        exact ⟨rfl, below_two hc8 hb9⟩
  · go_ret
    exact ⟨rfl, Below.refl _ _⟩

set_option maxHeartbeats 8000000 in
theorem walkX_ns (w : World)  (y : Addr) (capx : Nat) (lx : List Int) (hlx : lx.length ≤ 524288) (U : Text w (some y) lx) :
    Calls Try.prog 4 #[.slice none 0 0, .slice (some y) lx.length capx] w fun e w' => e = .returned (.bool true) ∧ Below w.heap.size w w' := by
  have Tm : Text w none [] := fun j hj => by simp at hj
  have hc : Below w.heap.size w w := Below.refl _ _
  have hmk2 := run_make_row' (P := Try.prog) 22 5 (.int .u8 0) 1 Try.underlying22 Try.info5 rfl .i64 .i64 lx.length (by omega) (by omega)
  have U2 := U
  obtain ⟨W3, hcp2, Tx, hc3⟩ := copy_in w y capx lx U2
  replace Tm := Tm.later hc3 (Nat.le_refl _)
  replace hc := below_two hc hc3
  clear hc3 U2
  go_enter Try.func4, Try.ntmps4
  go_wp2_with (first | (go_at_call 9; refine (zzBytesX_any none (some y) 0 0 lx.length capx _ (by unfold maxLen; omega) (by unfold maxLen; omega)).mono ?_; rintro e w' ⟨⟨rfl, hsum⟩ | rfl, rfl⟩) | fail)
  · refine (join_at _ 101 _ _ _ _ _ _ [] lx (by first | omega | simp) (by first | omega | simp) Tm Tx rfl rfl).mono ?_
    rintro e w3 ⟨rfl, TL, hb3⟩
    replace Tm := Tm.later hb3 (Nat.le_refl _)
    replace Tx := Tx.later hb3 (Nat.le_refl _)
    replace hc := below_two hc hb3
    clear hb3 hmk2 hcp2 U
    go_wp2_with fail
    refine (join_at _ 69 _ _ _ _ _ _ [] lx (by first | omega | simp) (by first | omega | simp) Tm Tx rfl rfl).mono ?_
    rintro e w4 ⟨rfl, TU, hb4⟩
    replace Tm := Tm.later hb4 (Nat.le_refl _)
    replace Tx := Tx.later hb4 (Nat.le_refl _)
    replace TL := TL.later hb4 (Nat.le_refl _)
    replace hc := below_two hc hb4
    clear hb4
    go_wp2_with fail
    have Q0 : Hid (acc 0 [] = false) := rfl
    refine (dec_at _ _ _ _ [] false (by first | omega | simp) Tm rfl Q0.out).mono ?_
    rintro e w5 ⟨rfl, hb5⟩
    replace Tm := Tm.later hb5 (Nat.le_refl _)
    replace Tx := Tx.later hb5 (Nat.le_refl _)
    replace TL := TL.later hb5 (Nat.le_refl _)
    replace TU := TU.later hb5 (Nat.le_refl _)
    replace hc := below_two hc hb5
    clear hb5
    have HW : Hid (wantB [] lx = false) := by show wantB [] lx = false; simp [wantB, Q0.out]
    have HL : Hid (acc 0 (([] : List Int) ++ 101 :: lx) = false) := (acc_split [] lx 101 (by decide)).trans HW.out
    have HU : Hid (acc 0 (([] : List Int) ++ 69 :: lx) = false) := (acc_split [] lx 69 (by decide)).trans HW.out
    clear HW
    go_wp2_with fail
    refine (lead_at _ _ _ _ [] (by first | omega | simp) (Nat.le_refl _) (by first | omega | simp) Tm rfl (by intro h; cases h <;> rfl)).mono ?_
    rintro e w6 ⟨⟨a', cap', rfl, TR⟩, rfl⟩
    go_wp2_with fail
    refine (dec_at _ _ _ _ (([] : List Int) ++ 101 :: lx) false (by first | (simp; done) | (simp; omega)) TL (by first | rfl | simp) HL.out).mono ?_
    rintro e w7 ⟨rfl, hb7⟩
    have TU7 := TU.later hb7 (Nat.le_refl _)
    have TR7 := TR.later hb7 (Nat.le_refl _)
    have hc7 := below_two hc hb7
    clear TU TR TL Tm Tx hc hb7
    go_wp2_with fail
    refine (dec_at _ _ _ _ (([] : List Int) ++ 69 :: lx) false (by first | (simp; done) | (simp; omega)) TU7 (by first | rfl | simp) HU.out).mono ?_
    rintro e w8 ⟨rfl, hb8⟩
    have TR8 := TR7.later hb8 (Nat.le_refl _)
    have hc8 := below_two hc7 hb8
    clear TU7 TR7 hc7 hb8
    go_wp2_with fail
    by_cases hr : 0 < (run ([] : List Int)).length
    · refine (dec_at _ _ _ _ (run ([] : List Int)) true (by have := run_short []; first | omega | simp [run]) TR8 rfl ((acc_run_at []).trans (decide_eq_true hr))).mono ?_
      rintro e w9 ⟨rfl, hb9⟩
      go_wp2_with fail
      go_ret
      exact ⟨rfl, below_two hc8 hb9⟩
    · refine (dec_at _ _ _ _ (run ([] : List Int)) false (by have := run_short []; first | omega | simp [run]) TR8 rfl ((acc_run_at []).trans (decide_eq_false hr))).mono ?_
      rintro e w9 ⟨rfl, hb9⟩
      go_wp2_with fail
      go_ret
      exact ⟨rfl, below_two hc8 hb9⟩
  · go_ret
    exact ⟨rfl, Below.refl _ _⟩

set_option maxHeartbeats 8000000 in
theorem walkX_sn (w : World) (x : Addr) (capm : Nat) (lm : List Int) (hlm : lm.length ≤ 524288) (T : Text w (some x) lm)  :
    Calls Try.prog 4 #[.slice (some x) lm.length capm, .slice none 0 0] w fun e w' => e = .returned (.bool true) ∧ Below w.heap.size w w' := by
  have hmk := run_make_row' (P := Try.prog) 22 5 (.int .u8 0) 1 Try.underlying22 Try.info5 rfl .i64 .i64 lm.length (by omega) (by omega)
  obtain ⟨W2, hcp, Tm, hc⟩ := copy_in w x capm lm T
  have Tx : Text W2 none [] := fun j hj => by simp at hj
  go_enter Try.func4, Try.ntmps4
  go_wp2_with (first | (go_at_call 9; refine (zzBytesX_any (some x) none lm.length capm 0 0 _ (by unfold maxLen; omega) (by unfold maxLen; omega)).mono ?_; rintro e w' ⟨⟨rfl, hsum⟩ | rfl, rfl⟩) | fail)
  · refine (join_at _ 101 _ _ _ _ _ _ lm [] (by first | omega | simp) (by first | omega | simp) Tm Tx rfl rfl).mono ?_
    rintro e w3 ⟨rfl, TL, hb3⟩
    replace Tm := Tm.later hb3 (Nat.le_refl _)
    replace Tx := Tx.later hb3 (Nat.le_refl _)
    replace hc := below_two hc hb3
    clear hb3 hmk hcp T
    go_wp2_with fail
    refine (join_at _ 69 _ _ _ _ _ _ lm [] (by first | omega | simp) (by first | omega | simp) Tm Tx rfl rfl).mono ?_
    rintro e w4 ⟨rfl, TU, hb4⟩
    replace Tm := Tm.later hb4 (Nat.le_refl _)
    replace Tx := Tx.later hb4 (Nat.le_refl _)
    replace TL := TL.later hb4 (Nat.le_refl _)
    replace hc := below_two hc hb4
    clear hb4
    go_wp2_with fail
    by_cases q0 : acc 0 lm = true
    · have Q0 : Hid (acc 0 lm = true) := by show acc 0 lm = true; simpa using q0
      clear q0
      refine (dec_at _ _ _ _ lm true (by first | omega | simp) Tm rfl Q0.out).mono ?_
      rintro e w5 ⟨rfl, hb5⟩
      replace Tm := Tm.later hb5 (Nat.le_refl _)
      replace Tx := Tx.later hb5 (Nat.le_refl _)
      replace TL := TL.later hb5 (Nat.le_refl _)
      replace TU := TU.later hb5 (Nat.le_refl _)
      replace hc := below_two hc hb5
      clear hb5
      go_wp2_with fail
      by_cases q1 : hasB lm 101 = true
      · have Q1 : Hid (hasB lm 101 = true) := by show hasB lm 101 = true; simpa using q1
        clear q1
        refine (has_at _ _ _ _ lm 101 true (by first | omega | simp) Tm rfl Q1.out).mono ?_
        rintro e w5 ⟨rfl, rfl⟩
        have HW : Hid (wantB lm [] = false) := by show wantB lm [] = false; simp [wantB, Q0.out, Q1.out]
        have HL : Hid (acc 0 (lm ++ 101 :: []) = false) := (acc_split lm [] 101 (by decide)).trans HW.out
        have HU : Hid (acc 0 (lm ++ 69 :: []) = false) := (acc_split lm [] 69 (by decide)).trans HW.out
        clear HW
        go_wp2_with fail
        refine (lead_at _ _ _ _ lm (by first | omega | simp) (Nat.le_refl _) (by first | omega | simp) Tm rfl (by intro h; cases h <;> rfl)).mono ?_
        rintro e w6 ⟨⟨a', cap', rfl, TR⟩, rfl⟩
        go_wp2_with fail
        refine (dec_at _ _ _ _ (lm ++ 101 :: []) false (by first | (simp; done) | (simp; omega)) TL (by first | rfl | simp) HL.out).mono ?_
        rintro e w7 ⟨rfl, hb7⟩
        have TU7 := TU.later hb7 (Nat.le_refl _)
        have TR7 := TR.later hb7 (Nat.le_refl _)
        have hc7 := below_two hc hb7
        clear TU TR TL Tm Tx hc hb7
        go_wp2_with fail
        refine (dec_at _ _ _ _ (lm ++ 69 :: []) false (by first | (simp; done) | (simp; omega)) TU7 (by first | rfl | simp) HU.out).mono ?_
        rintro e w8 ⟨rfl, hb8⟩
        have TR8 := TR7.later hb8 (Nat.le_refl _)
        have hc8 := below_two hc7 hb8
        clear TU7 TR7 hc7 hb8
        go_wp2_with fail
        by_cases hr : 0 < (run lm).length
        · refine (dec_at _ _ _ _ (run lm) true (by have := run_short lm; first | omega | simp [run]) TR8 rfl ((acc_run_at lm).trans (decide_eq_true hr))).mono ?_
          rintro e w9 ⟨rfl, hb9⟩
          go_wp2_with fail
          go_ret
          exact ⟨rfl, below_two hc8 hb9⟩
        · refine (dec_at _ _ _ _ (run lm) false (by have := run_short lm; first | omega | simp [run]) TR8 rfl ((acc_run_at lm).trans (decide_eq_false hr))).mono ?_
          rintro e w9 ⟨rfl, hb9⟩
          go_wp2_with fail
          go_ret
          exact ⟨rfl, below_two hc8 hb9⟩
      · have Q1 : Hid (hasB lm 101 = false) := by show hasB lm 101 = false; simpa using q1
        clear q1
        refine (has_at _ _ _ _ lm 101 false (by first | omega | simp) Tm rfl Q1.out).mono ?_
        rintro e w5 ⟨rfl, rfl⟩
        go_wp2_with fail
        by_cases q2 : hasB lm 69 = true
        · have Q2 : Hid (hasB lm 69 = true) := by show hasB lm 69 = true; simpa using q2
          clear q2
          refine (has_at _ _ _ _ lm 69 true (by first | omega | simp) Tm rfl Q2.out).mono ?_
          rintro e w5 ⟨rfl, rfl⟩
          have HW : Hid (wantB lm [] = false) := by show wantB lm [] = false; simp [wantB, Q0.out, Q1.out, Q2.out]
          have HL : Hid (acc 0 (lm ++ 101 :: []) = false) := (acc_split lm [] 101 (by decide)).trans HW.out
          have HU : Hid (acc 0 (lm ++ 69 :: []) = false) := (acc_split lm [] 69 (by decide)).trans HW.out
          clear HW
          go_wp2_with fail
          refine (lead_at _ _ _ _ lm (by first | omega | simp) (Nat.le_refl _) (by first | omega | simp) Tm rfl (by intro h; cases h <;> rfl)).mono ?_
          rintro e w6 ⟨⟨a', cap', rfl, TR⟩, rfl⟩
          go_wp2_with fail
          refine (dec_at _ _ _ _ (lm ++ 101 :: []) false (by first | (simp; done) | (simp; omega)) TL (by first | rfl | simp) HL.out).mono ?_
          rintro e w7 ⟨rfl, hb7⟩
          have TU7 := TU.later hb7 (Nat.le_refl _)
          have TR7 := TR.later hb7 (Nat.le_refl _)
          have hc7 := below_two hc hb7
          clear TU TR TL Tm Tx hc hb7
          go_wp2_with fail
          refine (dec_at _ _ _ _ (lm ++ 69 :: []) false (by first | (simp; done) | (simp; omega)) TU7 (by first | rfl | simp) HU.out).mono ?_
          rintro e w8 ⟨rfl, hb8⟩
          have TR8 := TR7.later hb8 (Nat.le_refl _)
          have hc8 := below_two hc7 hb8
          clear TU7 TR7 hc7 hb8
          go_wp2_with fail
          by_cases hr : 0 < (run lm).length
          · refine (dec_at _ _ _ _ (run lm) true (by have := run_short lm; first | omega | simp [run]) TR8 rfl ((acc_run_at lm).trans (decide_eq_true hr))).mono ?_
            rintro e w9 ⟨rfl, hb9⟩
            go_wp2_with fail
            go_ret
            exact ⟨rfl, below_two hc8 hb9⟩
          · refine (dec_at _ _ _ _ (run lm) false (by have := run_short lm; first | omega | simp [run]) TR8 rfl ((acc_run_at lm).trans (decide_eq_false hr))).mono ?_
            rintro e w9 ⟨rfl, hb9⟩
            go_wp2_with fail
            go_ret
            exact ⟨rfl, below_two hc8 hb9⟩
        · have Q2 : Hid (hasB lm 69 = false) := by show hasB lm 69 = false; simpa using q2
          clear q2
          refine (has_at _ _ _ _ lm 69 false (by first | omega | simp) Tm rfl Q2.out).mono ?_
          rintro e w5 ⟨rfl, rfl⟩
          go_wp2_with fail
          have Q3 : Hid (acc 0 [] = false) := rfl
          refine (dec_at _ _ _ _ [] false (by first | omega | simp) Tx rfl Q3.out).mono ?_
          rintro e w5 ⟨rfl, hb5⟩
          replace Tm := Tm.later hb5 (Nat.le_refl _)
          replace Tx := Tx.later hb5 (Nat.le_refl _)
          replace TL := TL.later hb5 (Nat.le_refl _)
          replace TU := TU.later hb5 (Nat.le_refl _)
          replace hc := below_two hc hb5
          clear hb5
          have HW : Hid (wantB lm [] = false) := by show wantB lm [] = false; simp [wantB, Q0.out, Q1.out, Q2.out, Q3.out]
          have HL : Hid (acc 0 (lm ++ 101 :: []) = false) := (acc_split lm [] 101 (by decide)).trans HW.out
          have HU : Hid (acc 0 (lm ++ 69 :: []) = false) := (acc_split lm [] 69 (by decide)).trans HW.out
          clear HW
          go_wp2_with fail
          refine (lead_at _ _ _ _ lm (by first | omega | simp) (Nat.le_refl _) (by first | omega | simp) Tm rfl (by intro h; cases h <;> rfl)).mono ?_
          rintro e w6 ⟨⟨a', cap', rfl, TR⟩, rfl⟩
          go_wp2_with fail
          refine (dec_at _ _ _ _ (lm ++ 101 :: []) false (by first | (simp; done) | (simp; omega)) TL (by first | rfl | simp) HL.out).mono ?_
          rintro e w7 ⟨rfl, hb7⟩
          have TU7 := TU.later hb7 (Nat.le_refl _)
          have TR7 := TR.later hb7 (Nat.le_refl _)
          have hc7 := below_two hc hb7
          clear TU TR TL Tm Tx hc hb7
          go_wp2_with fail
          refine (dec_at _ _ _ _ (lm ++ 69 :: []) false (by first | (simp; done) | (simp; omega)) TU7 (by first | rfl | simp) HU.out).mono ?_
          rintro e w8 ⟨rfl, hb8⟩
          have TR8 := TR7.later hb8 (Nat.le_refl _)
          have hc8 := below_two hc7 hb8
          clear TU7 TR7 hc7 hb8
          go_wp2_with fail
          by_cases hr : 0 < (run lm).length
          · refine (dec_at _ _ _ _ (run lm) true (by have := run_short lm; first | omega | simp [run]) TR8 rfl ((acc_run_at lm).trans (decide_eq_true hr))).mono ?_
            rintro e w9 ⟨rfl, hb9⟩
            go_wp2_with fail
            go_ret
            exact ⟨rfl, below_two hc8 hb9⟩
          · refine (dec_at _ _ _ _ (run lm) false (by have := run_short lm; first | omega | simp [run]) TR8 rfl ((acc_run_at lm).trans (decide_eq_false hr))).mono ?_
            rintro e w9 ⟨rfl, hb9⟩
            go_wp2_with fail
            go_ret
            exact ⟨rfl, below_two hc8 hb9⟩
    · have Q0 : Hid (acc 0 lm = false) := by show acc 0 lm = false; simpa using q0
      clear q0
      refine (dec_at _ _ _ _ lm false (by first | omega | simp) Tm rfl Q0.out).mono ?_
      rintro e w5 ⟨rfl, hb5⟩
      replace Tm := Tm.later hb5 (Nat.le_refl _)
      replace Tx := Tx.later hb5 (Nat.le_refl _)
      replace TL := TL.later hb5 (Nat.le_refl _)
      replace TU := TU.later hb5 (Nat.le_refl _)
      replace hc := below_two hc hb5
      clear hb5
      have HW : Hid (wantB lm [] = false) := by show wantB lm [] = false; simp [wantB, Q0.out]
      have HL : Hid (acc 0 (lm ++ 101 :: []) = false) := (acc_split lm [] 101 (by decide)).trans HW.out
      have HU : Hid (acc 0 (lm ++ 69 :: []) = false) := (acc_split lm [] 69 (by decide)).trans HW.out
      clear HW
      go_wp2_with fail
      refine (lead_at _ _ _ _ lm (by first | omega | simp) (Nat.le_refl _) (by first | omega | simp) Tm rfl (by intro h; cases h <;> rfl)).mono ?_
      rintro e w6 ⟨⟨a', cap', rfl, TR⟩, rfl⟩
      go_wp2_with fail
      refine (dec_at _ _ _ _ (lm ++ 101 :: []) false (by first | (simp; done) | (simp; omega)) TL (by first | rfl | simp) HL.out).mono ?_
      rintro e w7 ⟨rfl, hb7⟩
      have TU7 := TU.later hb7 (Nat.le_refl _)
      have TR7 := TR.later hb7 (Nat.le_refl _)
      have hc7 := below_two hc hb7
      clear TU TR TL Tm Tx hc hb7
      go_wp2_with fail
      refine (dec_at _ _ _ _ (lm ++ 69 :: []) false (by first | (simp; done) | (simp; omega)) TU7 (by first | rfl | simp) HU.out).mono ?_
      rintro e w8 ⟨rfl, hb8⟩
      have TR8 := TR7.later hb8 (Nat.le_refl _)
      have hc8 := below_two hc7 hb8
      clear TU7 TR7 hc7 hb8
      go_wp2_with fail
      by_cases hr : 0 < (run lm).length
      · refine (dec_at _ _ _ _ (run lm) true (by have := run_short lm; first | omega | simp [run]) TR8 rfl ((acc_run_at lm).trans (decide_eq_true hr))).mono ?_
        rintro e w9 ⟨rfl, hb9⟩
        go_wp2_with fail
        go_ret
        exact ⟨rfl, below_two hc8 hb9⟩
      · refine (dec_at _ _ _ _ (run lm) false (by have := run_short lm; first | omega | simp [run]) TR8 rfl ((acc_run_at lm).trans (decide_eq_false hr))).mono ?_
        rintro e w9 ⟨rfl, hb9⟩
        go_wp2_with fail
        go_ret
        exact ⟨rfl, below_two hc8 hb9⟩
  · go_ret
    exact ⟨rfl, Below.refl _ _⟩

set_option maxHeartbeats 8000000 in
theorem walkX_nn (w : World)   :
    Calls Try.prog 4 #[.slice none 0 0, .slice none 0 0] w fun e w' => e = .returned (.bool true) ∧ Below w.heap.size w w' := by
  have Tm : Text w none [] := fun j hj => by simp at hj
  have hc : Below w.heap.size w w := Below.refl _ _
  have Tx : Text w none [] := fun j hj => by simp at hj
  go_enter Try.func4, Try.ntmps4
  go_wp2_with (first | (go_at_call 9; refine (zzBytesX_any none none 0 0 0 0 _ (by unfold maxLen; omega) (by unfold maxLen; omega)).mono ?_; rintro e w' ⟨⟨rfl, hsum⟩ | rfl, rfl⟩) | fail)
  · refine (join_at _ 101 _ _ _ _ _ _ [] [] (by first | omega | simp) (by first | omega | simp) Tm Tx rfl rfl).mono ?_
    rintro e w3 ⟨rfl, TL, hb3⟩
    replace Tm := Tm.later hb3 (Nat.le_refl _)
    replace Tx := Tx.later hb3 (Nat.le_refl _)
    replace hc := below_two hc hb3
    clear hb3 
    go_wp2_with fail
    refine (join_at _ 69 _ _ _ _ _ _ [] [] (by first | omega | simp) (by first | omega | simp) Tm Tx rfl rfl).mono ?_
    rintro e w4 ⟨rfl, TU, hb4⟩
    replace Tm := Tm.later hb4 (Nat.le_refl _)
    replace Tx := Tx.later hb4 (Nat.le_refl _)
    replace TL := TL.later hb4 (Nat.le_refl _)
    replace hc := below_two hc hb4
    clear hb4
    go_wp2_with fail
    have Q0 : Hid (acc 0 [] = false) := rfl
    refine (dec_at _ _ _ _ [] false (by first | omega | simp) Tm rfl Q0.out).mono ?_
    rintro e w5 ⟨rfl, hb5⟩
    replace Tm := Tm.later hb5 (Nat.le_refl _)
    replace Tx := Tx.later hb5 (Nat.le_refl _)
    replace TL := TL.later hb5 (Nat.le_refl _)
    replace TU := TU.later hb5 (Nat.le_refl _)
    replace hc := below_two hc hb5
    clear hb5
    have HW : Hid (wantB [] [] = false) := by show wantB [] [] = false; simp [wantB, Q0.out]
    have HL : Hid (acc 0 (([] : List Int) ++ 101 :: []) = false) := (acc_split [] [] 101 (by decide)).trans HW.out
    have HU : Hid (acc 0 (([] : List Int) ++ 69 :: []) = false) := (acc_split [] [] 69 (by decide)).trans HW.out
    clear HW
    go_wp2_with fail
    refine (lead_at _ _ _ _ [] (by first | omega | simp) (Nat.le_refl _) (by first | omega | simp) Tm rfl (by intro h; cases h <;> rfl)).mono ?_
    rintro e w6 ⟨⟨a', cap', rfl, TR⟩, rfl⟩
    go_wp2_with fail
    refine (dec_at _ _ _ _ (([] : List Int) ++ 101 :: []) false (by first | (simp; done) | (simp; omega)) TL (by first | rfl | simp) HL.out).mono ?_
    rintro e w7 ⟨rfl, hb7⟩
    have TU7 := TU.later hb7 (Nat.le_refl _)
    have TR7 := TR.later hb7 (Nat.le_refl _)
    have hc7 := below_two hc hb7
    clear TU TR TL Tm Tx hc hb7
    go_wp2_with fail
    refine (dec_at _ _ _ _ (([] : List Int) ++ 69 :: []) false (by first | (simp; done) | (simp; omega)) TU7 (by first | rfl | simp) HU.out).mono ?_
    rintro e w8 ⟨rfl, hb8⟩
    have TR8 := TR7.later hb8 (Nat.le_refl _)
    have hc8 := below_two hc7 hb8
    clear TU7 TR7 hc7 hb8
    go_wp2_with fail
    by_cases hr : 0 < (run ([] : List Int)).length
    · refine (dec_at _ _ _ _ (run ([] : List Int)) true (by have := run_short []; first | omega | simp [run]) TR8 rfl ((acc_run_at []).trans (decide_eq_true hr))).mono ?_
      rintro e w9 ⟨rfl, hb9⟩
      go_wp2_with fail
      go_ret
      exact ⟨rfl, below_two hc8 hb9⟩
    · refine (dec_at _ _ _ _ (run ([] : List Int)) false (by have := run_short []; first | omega | simp [run]) TR8 rfl ((acc_run_at []).trans (decide_eq_false hr))).mono ?_
      rintro e w9 ⟨rfl, hb9⟩
      go_wp2_with fail
      go_ret
      exact ⟨rfl, below_two hc8 hb9⟩
  · go_ret
    exact ⟨rfl, Below.refl _ _⟩

end Go.Proofs.Qxb6618080a.Split
