/-
  The walks of zzDecClass, zzDecStep, zzDecAccepts.
-/
import Derived.Test.Qxb6618080aRows
import Derived.WalkKit
import Derived.WalkSpells
import Derived.WalkLawsBesides
import Derived.Test.Qxb6618080aWalkD
namespace Go.Proofs.Qxb6618080a
open Go.RowKit
open Go.Proofs.Qxb6618080a.Plain

theorem ret_int {k : IntKind} {a b : Int} (h : a = b) : Ending.returned (.int k a) = .returned (.int k b) := by rw [h]

theorem cls_d {c : Int} (h1 : 48 ≤ c) (h2 : c ≤ 57) : (0 : Int) = cls c := by
  unfold cls; rw [if_pos (isD_of h1 h2)]
theorem cls_s {c : Int} (h : c = 43 ∨ c = 45) : (1 : Int) = cls c := by
  rcases h with rfl | rfl <;> rfl
theorem cls_p {c : Int} (h : c = 46) : (2 : Int) = cls c := by subst h; rfl
theorem cls_e {c : Int} (h : c = 101 ∨ c = 69) : (3 : Int) = cls c := by
  rcases h with rfl | rfl <;> rfl
theorem cls_o {c : Int} (h1 : ¬ (48 ≤ c ∧ c ≤ 57)) (h2 : ¬ (c = 43 ∨ c = 45)) (h3 : ¬ c = 46) (h4 : ¬ (c = 101 ∨ c = 69)) : (4 : Int) = cls c := by
  unfold cls isD isS isE
  rw [decide_eq_false h1, decide_eq_false h2, decide_eq_false h4, if_neg (by decide), if_neg (by decide), if_neg h3, if_neg (by decide)]

set_option maxHeartbeats 1000000 in
theorem class_any (c : Int) (w : World) :
    Calls Try.prog 17 #[.int .u8 c] w fun e w' => e = .returned (.int .i64 (cls c)) ∧ w' = w := by
  go_enter Try.func17, Try.ntmps17
  go_wp2
  all_goals go_ret
  all_goals refine ⟨?_, rfl⟩
  all_goals simp only [beq_iff_eq, beq_eq_false_iff_ne, ne_eq] at *
  all_goals first
    | exact ret_int (cls_d (by omega) (by omega))
    | exact ret_int (cls_s (by omega))
    | exact ret_int (cls_p (by omega))
    | exact ret_int (cls_e (by omega))
    | exact ret_int (cls_o (by omega) (by omega) (by omega) (by omega))

set_option maxHeartbeats 1000000 in
theorem step_any (s k : Int) (w : World) :
    Calls Try.prog 16 #[.int .i64 s, .int .i64 k] w fun e w' => e = .returned (.int .i64 (stp s k)) ∧ w' = w := by
  go_enter Try.func16, Try.ntmps16
  go_wp2
  all_goals go_ret
  all_goals refine ⟨?_, rfl⟩
  all_goals simp only [beq_iff_eq, beq_eq_false_iff_ne, ne_eq] at *
  all_goals exact ret_int (by simp [stp, *])

theorem class_at (c k : Int) (w : World) (K : Hid (cls c = k)) : Calls Try.prog 17 #[.int .u8 c] w fun e w' => e = .returned (.int .i64 k) ∧ w' = w := by
  rw [← K.out]; exact class_any c w
theorem step_at (s k q : Int) (w : World) (K : Hid (stp s k = q)) : Calls Try.prog 16 #[.int .i64 s, .int .i64 k] w fun e w' => e = .returned (.int .i64 q) ∧ w' = w := by
  rw [← K.out]; exact step_any s k w

theorem end_or (s : Int) : (s == 2 || s == 4 || s == 7) = decide (s = 2 ∨ s = 4 ∨ s = 7) := by
  rw [Bool.eq_iff_iff]; simp [or_assoc]

set_option maxHeartbeats 1000000 in
theorem accepts_any (w : World) (a : Option Addr) (cap : Nat) (l : List Int) (hl : l.length ≤ 2097153) (T : Text w a l) :
    Calls Try.prog 8 #[.slice a l.length cap] w fun e w' => e = .returned (.bool (acc 0 l)) ∧ w' = w := by
  go_enter Try.func8, Try.ntmps8
  go_wp2_with fail
  go_loop [3, 4] (fun st i => ∃ (j : Nat) (s : Int), j ≤ l.length ∧ i = .int .i64 j ∧ st = .int .i64 s ∧ Hid (acc s (l.drop j) = acc 0 l)) (fun _ i => l.length - (intOf i).toNat)
  case atStart => exact ⟨0, 0, by omega, rfl, rfl, rfl⟩
  case round =>
    obtain ⟨j, s, hj, rfl, rfl, H⟩ := hrel
    by_cases hlt : j < l.length
    · obtain ⟨b, off, h1, h2⟩ := T j hlt
      have H2 := H.out
      rw [drop_cons l j hlt] at H2
      obtain ⟨c, hc⟩ : ∃ c, c = l.getD j 0 := ⟨_, rfl⟩
      rw [← hc] at h2 H2
      clear hc
      obtain ⟨k, K⟩ : ∃ k, Hid (cls c = k) := ⟨_, rfl⟩
      obtain ⟨q, Q⟩ : ∃ q, Hid (stp s k = q) := ⟨_, rfl⟩
      subst h1
      by_cases hq : q < 0
      · have e := acc_dead s c (l.drop (j + 1)) (by rw [K.out, Q.out]; exact hq)
        have HE : Hid (acc 0 l = false) := H2.symm.trans e
        clear e H2 H
        go_wp2_with fail
        refine (class_at c k _ K).mono ?_; rintro e w' ⟨rfl, rfl⟩
        go_wp2_with fail
        refine (step_at s k q _ Q).mono ?_; rintro e w' ⟨rfl, rfl⟩
        go_wp2_with fail
        go_ret
        exact ⟨ret_bool HE.out.symm, rfl⟩
      · have e := acc_go s c (l.drop (j + 1)) q (by rw [K.out, Q.out]) hq
        have HE : Hid (acc q (l.drop (j + 1)) = acc 0 l) := e.symm.trans H2
        clear e H2 H
        go_wp2_with fail
        refine (class_at c k _ K).mono ?_; rintro e w' ⟨rfl, rfl⟩
        go_wp2_with fail
        refine (step_at s k q _ Q).mono ?_; rintro e w' ⟨rfl, rfl⟩
        go_wp2_with fail
        go_round
        case rel => exact ⟨j + 1, q, by omega, by go_num, rfl, HE⟩
        case measure => simp [intOf]; omega
    · have H2 := H.out
      rw [List.drop_eq_nil_of_le (by omega), acc] at H2
      have HE : Hid (decide (s = 2 ∨ s = 4 ∨ s = 7) = acc 0 l) := H2
      clear H2 H
      go_wp2_with fail
      all_goals go_ret
      all_goals refine ⟨?_, rfl⟩
      all_goals rw [← HE.out]
      · exact ret_bool (decide_eq_true (by omega)).symm
      · exact ret_bool (decide_eq_true (by omega)).symm
      · exact ret_bool (end_or s)

theorem zzBytesA_any (a : Option Addr) (n cap : Nat) (w : World) (hn : n ≤ maxLen) :
    Calls Try.prog 6 #[.slice a n cap] w fun e w' => (e = .returned (.bool true) ∧ n ≤ 1048576 ∨ e = .returned (.bool false)) ∧ w' = w := by
  unfold maxLen at hn
  go_enter Try.func6, Try.ntmps6
  go_wp2
  all_goals (go_ret; first | exact ⟨Or.inr rfl, rfl⟩ | exact ⟨Or.inl ⟨rfl, by omega⟩, rfl⟩)

end Go.Proofs.Qxb6618080a
