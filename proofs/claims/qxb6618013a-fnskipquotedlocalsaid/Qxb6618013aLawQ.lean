/-
  The walk of FnSkipQuotedLocal.
-/
import Derived.Test.Qxb6618013aRows
import Derived.WalkKit
import Derived.ProofKit
import Derived.WalkSpells
import Derived.WalkLawsBesides
import Derived.Test.Qxb6618013aWalkQ
namespace Go.Proofs.Qxb6618013a
open Go.ChangeShapes Go.WideShapes Go.ChangeAt Go.RowKit

theorem bat_extract (s : ByteArray) (n j : Nat) (hn : n ≤ s.size) (hj : j < n) : bat (s.extract 0 n) j = bat s j := by
  have hz : (s.extract 0 n).size = n := by rw [ByteArray.size_extract]; omega
  rw [bat_get _ j (by omega), bat_get s j (by omega), ByteArray.getElem_extract]
  simp
theorem bat_append (a b c : ByteArray) (j : Nat) (hj : j < b.size) : bat (a ++ b ++ c) (a.size + j) = bat b j := by
  have hz : (a ++ b).size = a.size + b.size := ByteArray.size_append
  have hz2 : (a ++ b ++ c).size = a.size + b.size + c.size := by rw [ByteArray.size_append, hz]
  rw [bat_get _ (a.size + j) (by omega), bat_get b j hj, ByteArray.getElem_append_left (by omega), ByteArray.getElem_append_right (by omega)]
  simp

theorem zz_at (s : ByteArray) (ii : Int) (i0 fu : Nat) (q : Int) (bs : Bool) (rr : Int) (hs : s.size ≤ 1048576) (hi : i0 < s.size) (hfu : s.size < i0 + fu) (hii : ii = (i0 : Int)) (hrr : (PlainQ.sq (bat s) s.size q bs fu (i0 + 1) : Int) = rr) :
    Hid (∀ w, Calls Try.prog 7 #[.string s, .int .i64 ii, .int .u8 q, .bool bs] w fun e w' => e = .returned (.int .i64 rr) ∧ w' = w) := by
  rw [hii, ← hrr]; exact fun w => zzSkipQuoted_any s i0 fu q bs w hs hi hfu

set_option maxHeartbeats 1000000 in
theorem walk_closed (a0 : ByteArray) (i : Nat) (a2 : Int) (a3 : Bool) (a4 : ByteArray) (a5 : ByteArray) (r : Nat) (h0 : a0.size ≤ 65536) (h4 : a4.size ≤ 65536) (h5 : a5.size ≤ 65536) (hi : i < a0.size)
    (hir : i ≤ r) (hr : r + 1 < a0.size) (hq : ((a0[r].toNat : Int) != a2) = false)
    (C1 : Hid (∀ w, Calls Try.prog 7 #[.string a0, .int .i64 i, .int .u8 a2, .bool a3] w fun e w' => e = .returned (.int .i64 ((r : Int) + 1)) ∧ w' = w))
    (C2 : Hid (∀ w, Calls Try.prog 7 #[.string (a0.extract 0 (r + 1)), .int .i64 i, .int .u8 a2, .bool a3] w fun e w' => e = .returned (.int .i64 ((r : Int) + 1)) ∧ w' = w))
    (C3 : Hid (∀ w, Calls Try.prog 7 #[.string (a4 ++ a0 ++ a5), .int .i64 ((a4.size : Int) + i), .int .u8 a2, .bool a3] w fun e w' => e = .returned (.int .i64 ((a4.size : Int) + ((r : Int) + 1))) ∧ w' = w))
    (w : World) :
    Calls Try.prog 3 #[.string a0, .int .i64 i, .int .u8 a2, .bool a3, .string a4, .string a5] w fun e w' => e = .returned (.bool true) ∧ Grown w w' := by
  go_enter Try.func3, Try.ntmps3
  go_wp2_with (first | (go_at_call 6; refine (zzBytesQ_any a0 a4 a5 _ a2 a3 _ (by unfold maxLen; omega) (by unfold maxLen; omega) (by unfold maxLen; omega)).mono ?_; rintro e w' ⟨⟨rfl, hsum⟩ | rfl, rfl⟩) | fail)
  · refine (C1.out _).mono ?_; rintro e w' ⟨rfl, rfl⟩
    go_wp2_with fail
    refine (C2.out _).mono ?_; rintro e w' ⟨rfl, rfl⟩
    go_wp2_with fail
    refine (C3.out _).mono ?_; rintro e w' ⟨rfl, rfl⟩
    go_wp2_with fail
    go_ret
    exact ⟨rfl, Grown.refl _⟩
  · go_ret
    exact ⟨rfl, Grown.refl _⟩

set_option maxHeartbeats 1000000 in
theorem walk_open (a0 : ByteArray) (i : Nat) (a2 : Int) (a3 : Bool) (a4 : ByteArray) (a5 : ByteArray) (big : Int) (h0 : a0.size ≤ 65536) (h4 : a4.size ≤ 65536) (h5 : a5.size ≤ 65536) (hi : i < a0.size)
    (hbig : (a4.size : Int) + (a0.size : Int) ≤ big)
    (C1 : Hid (∀ w, Calls Try.prog 7 #[.string a0, .int .i64 i, .int .u8 a2, .bool a3] w fun e w' => e = .returned (.int .i64 (a0.size : Int)) ∧ w' = w))
    (C3 : Hid (∀ w, Calls Try.prog 7 #[.string (a4 ++ a0 ++ a5), .int .i64 ((a4.size : Int) + i), .int .u8 a2, .bool a3] w fun e w' => e = .returned (.int .i64 big) ∧ w' = w))
    (w : World) :
    Calls Try.prog 3 #[.string a0, .int .i64 i, .int .u8 a2, .bool a3, .string a4, .string a5] w fun e w' => e = .returned (.bool true) ∧ Grown w w' := by
  go_enter Try.func3, Try.ntmps3
  go_wp2_with (first | (go_at_call 6; refine (zzBytesQ_any a0 a4 a5 _ a2 a3 _ (by unfold maxLen; omega) (by unfold maxLen; omega) (by unfold maxLen; omega)).mono ?_; rintro e w' ⟨⟨rfl, hsum⟩ | rfl, rfl⟩) | fail)
  · refine (C1.out _).mono ?_; rintro e w' ⟨rfl, rfl⟩
    go_wp2_with fail
    refine (C1.out _).mono ?_; rintro e w' ⟨rfl, rfl⟩
    go_wp2_with fail
    refine (C3.out _).mono ?_; rintro e w' ⟨rfl, rfl⟩
    go_wp2_with fail
    go_ret
    exact ⟨rfl, Grown.refl _⟩
  · go_ret
    exact ⟨rfl, Grown.refl _⟩

set_option maxHeartbeats 1000000 in
theorem walk_out (a0 : ByteArray) (a1 : Int) (a2 : Int) (a3 : Bool) (a4 : ByteArray) (a5 : ByteArray) (w0 : a0.size ≤ maxLen) (w4 : a4.size ≤ maxLen) (w5 : a5.size ≤ maxLen)
    (hin : ¬ (a0.size ≤ 65536 ∧ a4.size ≤ 65536 ∧ a5.size ≤ 65536 ∧ 0 ≤ a1 ∧ a1 < (a0.size : Int))) (w : World) :
    Calls Try.prog 3 #[.string a0, .int .i64 a1, .int .u8 a2, .bool a3, .string a4, .string a5] w fun e w' => e = .returned (.bool true) ∧ Grown w w' := by
  have b0 := w0; have b4 := w4; have b5 := w5
  unfold maxLen at b0 b4 b5
  have HIN : Hid (¬ (a0.size ≤ 65536 ∧ a4.size ≤ 65536 ∧ a5.size ≤ 65536 ∧ 0 ≤ a1 ∧ a1 < (a0.size : Int))) := hin
  clear hin
  go_enter Try.func3, Try.ntmps3
  go_wp2_with (first | (go_at_call 6; refine (zzBytesQ_any a0 a4 a5 a1 a2 a3 _ w0 w4 w5).mono ?_; rintro e w' ⟨⟨rfl, hsum⟩ | rfl, rfl⟩) | fail)
  all_goals first | (go_ret; exact ⟨rfl, Grown.refl _⟩) | (exfalso; have := HIN.out; omega)

theorem walkQ (a0 : ByteArray) (a1 : Int) (a2 : Int) (a3 : Bool) (a4 : ByteArray) (a5 : ByteArray) (w0 : a0.size ≤ maxLen) (w4 : a4.size ≤ maxLen) (w5 : a5.size ≤ maxLen) (w : World) :
    Calls Try.prog 3 #[.string a0, .int .i64 a1, .int .u8 a2, .bool a3, .string a4, .string a5] w fun e w' => e = .returned (.bool true) ∧ Grown w w' := by
  by_cases hin : a0.size ≤ 65536 ∧ a4.size ≤ 65536 ∧ a5.size ≤ 65536 ∧ 0 ≤ a1 ∧ a1 < (a0.size : Int)
  · obtain ⟨h0, h4, h5, hlo, hhi⟩ := hin
    obtain ⟨i, rfl⟩ : ∃ i : Nat, a1 = (i : Int) := ⟨a1.toNat, by omega⟩
    have hi : i < a0.size := by omega
    obtain ⟨fu, hfu⟩ : ∃ fu, fu = a4.size + a0.size + a5.size + 1 := ⟨_, rfl⟩
    obtain ⟨r, hr⟩ : ∃ r, r = PlainQ.sq (bat a0) a0.size a2 a3 fu (i + 1) := ⟨_, rfl⟩
    have g1 := PlainQ.sq_gt (bat a0) a0.size a2 a3 fu (i + 1)
    have g2 := PlainQ.sq_le (bat a0) a0.size a2 a3 fu (i + 1)
    have hz : (a4 ++ a0 ++ a5).size = a4.size + a0.size + a5.size := by rw [ByteArray.size_append, ByteArray.size_append]
    by_cases hc : r < a0.size
    · have hq := PlainQ.sq_quote (bat a0) a0.size a2 a3 fu (i + 1) (by omega)
      obtain ⟨r', rfl⟩ : ∃ r', r = r' + 1 := ⟨r - 1, by omega⟩
      have hze : (a0.extract 0 (r' + 1)).size = r' + 1 := by rw [ByteArray.size_extract]; omega
      rw [← hr, show r' + 1 - 1 = r' from by omega, bat_get a0 r' (by omega)] at hq
      refine walk_closed a0 i a2 a3 a4 a5 r' h0 h4 h5 hi (by omega) hc (by simpa using hq) ?_ ?_ ?_ w
      · exact zz_at a0 i i fu a2 a3 _ (by omega) hi (by omega) rfl (by rw [← hr]; omega)
      · refine zz_at _ i i fu a2 a3 _ (by omega) (by omega) (by omega) rfl ?_
        have k := PlainQ.sq_closed (bat a0) (bat (a0.extract 0 (r' + 1))) a0.size (r' + 1) 0 a2 a3 fu (i + 1) (by omega) (by omega)
          (fun j hj => by rw [show 0 + j = j from by omega]; exact bat_extract a0 (r' + 1) j (by omega) (by omega)) (fun hx => by omega)
        rw [hze]
        rw [show 0 + (i + 1) = i + 1 from by omega] at k
        rw [k, ← hr]; omega
      · refine zz_at _ _ (a4.size + i) fu a2 a3 _ (by omega) (by omega) (by omega) (by omega) ?_
        have k := PlainQ.sq_closed (bat a0) (bat (a4 ++ a0 ++ a5)) a0.size (a4 ++ a0 ++ a5).size a4.size a2 a3 fu (i + 1) (by omega) (by omega)
          (fun j hj => bat_append a4 a0 a5 j (by omega)) (fun hx => bat_append a4 a0 a5 _ (by omega))
        rw [show a4.size + i + 1 = a4.size + (i + 1) from by omega, k, ← hr]; omega
    · have hrn : r = a0.size := by omega
      have k := PlainQ.sq_open (bat a0) (bat (a4 ++ a0 ++ a5)) a0.size (a4 ++ a0 ++ a5).size a4.size a2 a3 (by omega) (fun j hj => bat_append a4 a0 a5 j hj) fu (i + 1) (by omega)
      refine walk_open a0 i a2 a3 a4 a5 (PlainQ.sq (bat (a4 ++ a0 ++ a5)) (a4 ++ a0 ++ a5).size a2 a3 fu (a4.size + (i + 1)) : Nat) h0 h4 h5 hi (by omega) ?_ ?_ w
      · exact zz_at a0 i i fu a2 a3 _ (by omega) hi (by omega) rfl (by rw [← hr]; omega)
      · refine zz_at _ _ (a4.size + i) fu a2 a3 _ (by omega) (by omega) (by omega) (by omega) ?_
        rw [show a4.size + i + 1 = a4.size + (i + 1) from by omega]
  · exact walk_out a0 a1 a2 a3 a4 a5 w0 w4 w5 hin w

end Go.Proofs.Qxb6618013a
