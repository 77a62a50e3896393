/-
  The walk of FnSkipBlockCommentLocal.
-/
import Derived.Test.Qxb6618013aRows
import Derived.WalkKit
import Derived.ProofKit
import Derived.WalkSpells
import Derived.WalkLawsBesides
import Derived.Test.Qxb6618013aWalkB
namespace Go.Proofs.Qxb6618013a.Blk
open Go.ChangeShapes Go.WideShapes Go.ChangeAt Go.RowKit
open Go.Proofs.Qxb6618013a.PlainB

theorem zz_at (s : ByteArray) (ii : Int) (i0 fu : Nat) (rr : Int) (hs : s.size ≤ 1048576) (hi : i0 < s.size) (hfu : s.size < i0 + fu) (hii : ii = (i0 : Int)) (hrr : (sc (bat s) s.size fu i0 0 : Int) = rr) :
    Hid (∀ w, Calls Try.prog 10 #[.string s, .int .i64 ii] w fun e w' => e = .returned (.int .i64 rr) ∧ w' = w) := by
  rw [hii, ← hrr]; exact fun w => zzSkipBlock_any s i0 fu w hs hi hfu

set_option maxHeartbeats 1000000 in
theorem walk_closed (a0 : ByteArray) (i : Nat) (a4 : ByteArray) (a5 : ByteArray) (r : Nat) (h0 : a0.size ≤ 65536) (h4 : a4.size ≤ 65536) (h5 : a5.size ≤ 65536) (hi : i < a0.size)
    (hir : i ≤ r) (hr : r + 2 < a0.size) (hq : ((a0[r].toNat : Int) != 42) = false) (hq1 : ((a0[r + 1].toNat : Int) != 47) = false)
    (C1 : Hid (∀ w, Calls Try.prog 10 #[.string a0, .int .i64 i] w fun e w' => e = .returned (.int .i64 ((r : Int) + 2)) ∧ w' = w))
    (C2 : Hid (∀ w, Calls Try.prog 10 #[.string (a0.extract 0 (r + 2)), .int .i64 i] w fun e w' => e = .returned (.int .i64 ((r : Int) + 2)) ∧ w' = w))
    (C3 : Hid (∀ w, Calls Try.prog 10 #[.string (a4 ++ a0 ++ a5), .int .i64 ((a4.size : Int) + i)] w fun e w' => e = .returned (.int .i64 ((a4.size : Int) + ((r : Int) + 2))) ∧ w' = w))
    (w : World) :
    Calls Try.prog 5 #[.string a0, .int .i64 i, .string a4, .string a5] w fun e w' => e = .returned (.bool true) ∧ Grown w w' := by
  go_enter Try.func5, Try.ntmps5
  go_wp2_with (first | (go_at_call 11; refine (zzBytesB_any a0 a4 a5 _ _ (by unfold maxLen; omega) (by unfold maxLen; omega) (by unfold maxLen; omega)).mono ?_; rintro e w' ⟨⟨rfl, hsum⟩ | rfl, rfl⟩) | fail)
  · refine (C1.out _).mono ?_; rintro e w' ⟨rfl, rfl⟩
    go_wp2_with fail
    refine (C2.out _).mono ?_; rintro e w' ⟨rfl, rfl⟩
    go_wp2_with fail
    refine (C3.out _).mono ?_; rintro e w' ⟨rfl, rfl⟩
    go_wp2_with fail
    go_ret
    exact ⟨rfl, Grown.refl _⟩
  · go_ret
    exact ⟨rfl, Grown.refl _⟩

set_option maxHeartbeats 1000000 in
theorem walk_open (a0 : ByteArray) (i : Nat) (a4 : ByteArray) (a5 : ByteArray) (big : Int) (h0 : a0.size ≤ 65536) (h4 : a4.size ≤ 65536) (h5 : a5.size ≤ 65536) (hi : i < a0.size)
    (hbig : (a4.size : Int) + (a0.size : Int) ≤ big)
    (C1 : Hid (∀ w, Calls Try.prog 10 #[.string a0, .int .i64 i] w fun e w' => e = .returned (.int .i64 (a0.size : Int)) ∧ w' = w))
    (C3 : Hid (∀ w, Calls Try.prog 10 #[.string (a4 ++ a0 ++ a5), .int .i64 ((a4.size : Int) + i)] w fun e w' => e = .returned (.int .i64 big) ∧ w' = w))
    (w : World) :
    Calls Try.prog 5 #[.string a0, .int .i64 i, .string a4, .string a5] w fun e w' => e = .returned (.bool true) ∧ Grown w w' := by
  go_enter Try.func5, Try.ntmps5
  go_wp2_with (first | (go_at_call 11; refine (zzBytesB_any a0 a4 a5 _ _ (by unfold maxLen; omega) (by unfold maxLen; omega) (by unfold maxLen; omega)).mono ?_; rintro e w' ⟨⟨rfl, hsum⟩ | rfl, rfl⟩) | fail)
  · refine (C1.out _).mono ?_; rintro e w' ⟨rfl, rfl⟩
    go_wp2_with fail
    refine (C1.out _).mono ?_; rintro e w' ⟨rfl, rfl⟩
    go_wp2_with fail
    refine (C3.out _).mono ?_; rintro e w' ⟨rfl, rfl⟩
    go_wp2_with fail
    go_ret
    exact ⟨rfl, Grown.refl _⟩
  · go_ret
    exact ⟨rfl, Grown.refl _⟩

set_option maxHeartbeats 1000000 in
theorem walk_out (a0 : ByteArray) (a1 : Int) (a4 : ByteArray) (a5 : ByteArray) (w0 : a0.size ≤ maxLen) (w4 : a4.size ≤ maxLen) (w5 : a5.size ≤ maxLen)
    (hin : ¬ (a0.size ≤ 65536 ∧ a4.size ≤ 65536 ∧ a5.size ≤ 65536 ∧ 0 ≤ a1 ∧ a1 < (a0.size : Int))) (w : World) :
    Calls Try.prog 5 #[.string a0, .int .i64 a1, .string a4, .string a5] w fun e w' => e = .returned (.bool true) ∧ Grown w w' := by
  have b0 := w0; have b4 := w4; have b5 := w5
  unfold maxLen at b0 b4 b5
  have HIN : Hid (¬ (a0.size ≤ 65536 ∧ a4.size ≤ 65536 ∧ a5.size ≤ 65536 ∧ 0 ≤ a1 ∧ a1 < (a0.size : Int))) := hin
  clear hin
  go_enter Try.func5, Try.ntmps5
  go_wp2_with (first | (go_at_call 11; refine (zzBytesB_any a0 a4 a5 a1 _ w0 w4 w5).mono ?_; rintro e w' ⟨⟨rfl, hsum⟩ | rfl, rfl⟩) | fail)
  all_goals first | (go_ret; exact ⟨rfl, Grown.refl _⟩) | (exfalso; have := HIN.out; omega)

theorem walkB (a0 : ByteArray) (a1 : Int) (a4 : ByteArray) (a5 : ByteArray) (w0 : a0.size ≤ maxLen) (w4 : a4.size ≤ maxLen) (w5 : a5.size ≤ maxLen) (w : World) :
    Calls Try.prog 5 #[.string a0, .int .i64 a1, .string a4, .string a5] w fun e w' => e = .returned (.bool true) ∧ Grown w w' := by
  by_cases hin : a0.size ≤ 65536 ∧ a4.size ≤ 65536 ∧ a5.size ≤ 65536 ∧ 0 ≤ a1 ∧ a1 < (a0.size : Int)
  · obtain ⟨h0, h4, h5, hlo, hhi⟩ := hin
    obtain ⟨i, rfl⟩ : ∃ i : Nat, a1 = (i : Int) := ⟨a1.toNat, by omega⟩
    have hi : i < a0.size := by omega
    obtain ⟨fu, hfu⟩ : ∃ fu, fu = a4.size + a0.size + a5.size + 1 := ⟨_, rfl⟩
    obtain ⟨r, hr⟩ : ∃ r, r = sc (bat a0) a0.size fu i 0 := ⟨_, rfl⟩
    have g1 := sc_gt (bat a0) a0.size fu i 0
    have g2 := sc_le (bat a0) a0.size fu i 0
    have hz : (a4 ++ a0 ++ a5).size = a4.size + a0.size + a5.size := by rw [ByteArray.size_append, ByteArray.size_append]
    by_cases hc : r < a0.size
    · have hq := sc_mark (bat a0) a0.size fu i 0 (by omega)
      obtain ⟨r', rfl⟩ : ∃ r', r = r' + 2 := ⟨r - 2, by omega⟩
      have hze : (a0.extract 0 (r' + 2)).size = r' + 2 := by rw [ByteArray.size_extract]; omega
      rw [← hr, show r' + 2 - 2 = r' from by omega, show r' + 2 - 1 = r' + 1 from by omega, bat_get a0 r' (by omega), bat_get a0 (r' + 1) (by omega)] at hq
      refine walk_closed a0 i a4 a5 r' h0 h4 h5 hi (by omega) hc (by simpa using hq.1) (by simpa using hq.2) ?_ ?_ ?_ w
      · exact zz_at a0 i i fu _ (by omega) hi (by omega) rfl (by rw [← hr]; omega)
      · refine zz_at _ i i fu _ (by omega) (by omega) (by omega) rfl ?_
        have k := sc_closed (bat a0) (bat (a0.extract 0 (r' + 2))) a0.size (r' + 2) 0 fu i 0 (by omega) (by omega)
          (fun j hj => by rw [show 0 + j = j from by omega]; exact bat_extract a0 (r' + 2) j (by omega) (by omega))
        rw [hze]
        rw [show 0 + i = i from by omega] at k
        rw [k, ← hr]; omega
      · refine zz_at _ _ (a4.size + i) fu _ (by omega) (by omega) (by omega) (by omega) ?_
        have k := sc_closed (bat a0) (bat (a4 ++ a0 ++ a5)) a0.size (a4 ++ a0 ++ a5).size a4.size fu i 0 (by omega) (by omega)
          (fun j hj => bat_append a4 a0 a5 j (by omega))
        rw [k, ← hr]; omega
    · have hrn : r = a0.size := by omega
      have k := sc_open (bat a0) (bat (a4 ++ a0 ++ a5)) a0.size (a4 ++ a0 ++ a5).size a4.size (by omega) (fun j hj => bat_append a4 a0 a5 j hj) fu i 0 (by omega)
      refine walk_open a0 i a4 a5 (sc (bat (a4 ++ a0 ++ a5)) (a4 ++ a0 ++ a5).size fu (a4.size + i) 0 : Nat) h0 h4 h5 hi (by omega) ?_ ?_ w
      · exact zz_at a0 i i fu _ (by omega) hi (by omega) rfl (by rw [← hr]; omega)
      · exact zz_at _ _ (a4.size + i) fu _ (by omega) (by omega) (by omega) (by omega) rfl
  · exact walk_out a0 a1 a4 a5 w0 w4 w5 hin w

end Go.Proofs.Qxb6618013a.Blk
