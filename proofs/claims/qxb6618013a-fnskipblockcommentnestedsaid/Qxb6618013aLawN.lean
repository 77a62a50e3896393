/-
  The walk of FnSkipBlockCommentNested.
-/
import Derived.Test.Qxb6618013aRows
import Derived.WalkKit
import Derived.ProofKit
import Derived.WalkSpells
import Derived.WalkLawsBesides
import Derived.Test.Qxb6618013aWalkN
namespace Go.Proofs.Qxb6618013a.Blk
open Go.ChangeShapes Go.WideShapes Go.ChangeAt Go.RowKit
open Go.Proofs.Qxb6618013a.PlainB

set_option maxHeartbeats 1000000 in
theorem walkN_out (a0 : ByteArray) (a1 : Int) (w0 : a0.size ≤ maxLen) (hin : ¬ (a0.size ≤ 65536 ∧ 0 ≤ a1 ∧ a1 ≤ (a0.size : Int) - 2)) (w : World) :
    Calls Try.prog 4 #[.string a0, .int .i64 a1] w fun e w' => e = .returned (.bool true) ∧ Grown w w' := by
  have b0 := w0
  unfold maxLen at b0
  have HIN : Hid (¬ (a0.size ≤ 65536 ∧ 0 ≤ a1 ∧ a1 ≤ (a0.size : Int) - 2)) := hin
  clear hin
  go_enter Try.func4, Try.ntmps4
  go_wp2_with (first | (go_at_call 8; refine (zzBytesN_any a0 a1 _ w0).mono ?_; rintro e w' ⟨⟨rfl, hsum⟩ | rfl, rfl⟩) | fail)
  all_goals first | (go_ret; exact ⟨rfl, Grown.refl _⟩) | (exfalso; have := HIN.out; omega)

set_option maxHeartbeats 1000000 in
theorem walkN_in (a0 : ByteArray) (i : Nat) (w0 : a0.size ≤ maxLen) (h0 : a0.size ≤ 65536) (hi : i + 1 < a0.size) (w : World) :
    Calls Try.prog 4 #[.string a0, .int .i64 i] w fun e w' => e = .returned (.bool true) ∧ Grown w w' := by
  go_enter Try.func4, Try.ntmps4
  go_wp2_with (first | (go_at_call 8; refine (zzBytesN_any a0 _ _ w0).mono ?_; rintro e w' ⟨⟨rfl, hsum⟩ | rfl, rfl⟩) | fail)
  all_goals first | (go_ret; exact ⟨rfl, Grown.refl _⟩) | skip
  have y : at2B (bat a0) a0.size 47 42 i = true := by
    have y1 : ((a0[i + 1].toNat : Int) != 42) = false := by assumption
    exact at2B_mk ⟨hi, by rw [bat_get a0 i (by omega)]; assumption, by rw [bat_get a0 (i + 1) hi]; simpa using y1⟩
  have F := sc_nested (bat a0) a0.size (a0.size + 1) i y (by omega)
  have bd := cl_bd (bat a0) a0.size (a0.size + 1) (i + 2)
  have C1 : Hid (∀ w, Calls Try.prog 9 #[.string a0, .int .i64 i] w fun e w' => e = .returned (.int .i64 (cl (bat a0) a0.size (a0.size + 1) (i + 2))) ∧ w' = w) :=
    fun w => commentEnd_any a0 h0 (a0.size + 1) i (a0.size + 1) w (by omega) hi (by omega)
  have C2 : Hid (∀ w, Calls Try.prog 10 #[.string a0, .int .i64 i] w fun e w' => e = .returned (.int .i64 (sc (bat a0) a0.size (a0.size + 1 + 1) i 0 : Nat)) ∧ w' = w) :=
    fun w => zzSkipBlock_any a0 i (a0.size + 1 + 1) w (by omega) (by omega) (by omega)
  rw [F] at C2
  clear F y
  by_cases he : cl (bat a0) a0.size (a0.size + 1) (i + 2) < 0
  · rw [if_pos he] at C2
    rw [show cl (bat a0) a0.size (a0.size + 1) (i + 2) = -1 from by omega] at C1
    clear he bd
    refine (C1.out _).mono ?_; rintro e w' ⟨rfl, rfl⟩
    go_wp2_with fail
    refine (C2.out _).mono ?_; rintro e w' ⟨rfl, rfl⟩
    go_wp2_with fail
    go_ret
    exact ⟨rfl, Grown.refl _⟩
  · rw [if_neg he] at C2
    obtain ⟨m, em⟩ : ∃ m : Nat, cl (bat a0) a0.size (a0.size + 1) (i + 2) = (m : Int) := ⟨(cl (bat a0) a0.size (a0.size + 1) (i + 2)).toNat, by omega⟩
    rw [em] at C1 C2
    rw [show ((m : Int)).toNat = m from by omega] at C2
    clear he bd em
    refine (C1.out _).mono ?_; rintro e w' ⟨rfl, rfl⟩
    go_wp2_with fail
    refine (C2.out _).mono ?_; rintro e w' ⟨rfl, rfl⟩
    go_wp2_with fail
    go_ret
    exact ⟨rfl, Grown.refl _⟩

theorem walkN (a0 : ByteArray) (a1 : Int) (w0 : a0.size ≤ maxLen) (w : World) :
    Calls Try.prog 4 #[.string a0, .int .i64 a1] w fun e w' => e = .returned (.bool true) ∧ Grown w w' := by
  by_cases hin : a0.size ≤ 65536 ∧ 0 ≤ a1 ∧ a1 ≤ (a0.size : Int) - 2
  · obtain ⟨i, rfl⟩ : ∃ i : Nat, a1 = (i : Int) := ⟨a1.toNat, by omega⟩
    exact walkN_in a0 i w0 hin.1 (by omega) w
  · exact walkN_out a0 a1 w0 hin w

end Go.Proofs.Qxb6618013a.Blk
