/-
  The walk of FnIsDecimalMatchesAutomaton.
-/
import Derived.Test.Qxb6618080aRows
import Derived.WalkKit
import Derived.WalkSpells
import Derived.WalkLawsBesides
import Derived.Deep.OwnRows
import Derived.Test.Qxb6618080aWalkA
import Derived.Test.Qxb6618080aWalkE
import Derived.Test.Qxb6618080aCopy
namespace Go.Proofs.Qxb6618080a
open Go.RowKit
open Go.Proofs.Qxb6618080a.Plain

theorem Try.info5A : (Try.prog.info? 5).map (fun i => (i.zero, i.size, i.bytes)) = some (some (.int .u8 0), 1, 1) := by kernel_rfl

theorem zzIs_at (w : World) (a : Option Addr) (n cap : Nat) (l : List Int) (b : Bool) (hl : l.length ≤ 2097153) (T : Text w a l) (hn : l.length = n) (hb : acc 0 l = b) :
    Calls Try.prog 7 #[.slice a n cap] w fun e w' => e = .returned (.bool b) ∧ Below w.heap.size w w' := by
  rw [← hn, ← hb]; exact zzIsDecimal_any w a cap l hl T
theorem zzAcc_at (w : World) (a : Option Addr) (n cap : Nat) (l : List Int) (b : Bool) (hl : l.length ≤ 2097153) (T : Text w a l) (hn : l.length = n) (hb : acc 0 l = b) :
    Calls Try.prog 8 #[.slice a n cap] w fun e w' => e = .returned (.bool b) ∧ w' = w := by
  rw [← hn, ← hb]; exact accepts_any w a cap l hl T

theorem belowA {B : Nat} {w w1 w2 : World} (h : Below B w w1) (hB : B ≤ w.heap.size) (k : Below w1.heap.size w1 w2) : Below B w w2 :=
  h.trans (k.mono (Nat.le_trans hB h.size))

set_option maxHeartbeats 2000000 in
theorem walkA_some (w : World) (x : Addr) (cap : Nat) (l : List Int) (hl : l.length ≤ 1048576) (T : Text w (some x) l) :
    Calls Try.prog 3 #[.slice (some x) l.length cap] w fun e w' => e = .returned (.bool true) ∧ Below w.heap.size w w' := by
  have hmk := run_make_row' (P := Try.prog) 22 5 (.int .u8 0) 1 Try.underlying22 Try.info5A rfl .i64 .i64 l.length (by omega) (by omega)
  obtain ⟨W2, hcp, T2, hb2⟩ := copy_in w x cap l T
  obtain ⟨p, P⟩ : ∃ p, Hid (acc 0 l = p) := ⟨_, rfl⟩
  go_enter Try.func3, Try.ntmps3
  go_wp2_with (first | (go_at_call 6; refine (zzBytesA_any (some x) l.length cap _ (by unfold maxLen; omega)).mono ?_; rintro e w' ⟨⟨rfl, hsum⟩ | rfl, rfl⟩) | fail)
  · refine (zzIs_at W2 _ _ _ l p (by omega) T2 rfl P.out).mono ?_
    rintro e w3 ⟨rfl, hb3⟩
    have T3 := T2.later hb3 (Nat.le_refl _)
    have hc3 := belowA hb2 (Nat.le_refl _) hb3
    clear hmk hcp T2 hb2 hb3 T
    go_wp2_with fail
    refine (zzAcc_at w3 _ _ _ l p (by omega) T3 rfl P.out).mono ?_
    rintro e w4 ⟨rfl, rfl⟩
    cases p
    all_goals
      go_wp2_with fail
      go_ret
      exact ⟨rfl, hc3⟩
  · go_ret
    exact ⟨rfl, Below.refl _ _⟩

set_option maxHeartbeats 2000000 in
theorem walkA_nil (w : World) :
    Calls Try.prog 3 #[.slice none 0 0] w fun e w' => e = .returned (.bool true) ∧ Below w.heap.size w w' := by
  have T : Text w none [] := fun j hj => by simp at hj
  go_enter Try.func3, Try.ntmps3
  go_wp2_with (first | (go_at_call 6; refine (zzBytesA_any none 0 0 _ (by unfold maxLen; omega)).mono ?_; rintro e w' ⟨⟨rfl, hsum⟩ | rfl, rfl⟩) | fail)
  · refine (zzIs_at w' none 0 0 [] false (by simp) T rfl rfl).mono ?_
    rintro e w3 ⟨rfl, hb3⟩
    have T3 := T.later hb3 (Nat.le_refl _)
    clear T
    go_wp2_with fail
    refine (zzAcc_at w3 none 0 0 [] false (by simp) T3 rfl rfl).mono ?_
    rintro e w4 ⟨rfl, rfl⟩
    go_wp2_with fail
    go_ret
    exact ⟨rfl, hb3⟩
  · go_ret
    exact ⟨rfl, Below.refl _ _⟩

set_option maxHeartbeats 2000000 in
theorem walkA_long (w : World) (a : Option Addr) (n cap : Nat) (hn : n ≤ maxLen) (hl : 1048576 < n) :
    Calls Try.prog 3 #[.slice a n cap] w fun e w' => e = .returned (.bool true) ∧ Below w.heap.size w w' := by
  go_enter Try.func3, Try.ntmps3
  go_wp2_with (first | (go_at_call 6; refine (zzBytesA_any a n cap _ hn).mono ?_; rintro e w' ⟨⟨rfl, hsum⟩ | rfl, rfl⟩; try (exfalso; omega)) | fail)
  all_goals first | (exfalso; omega) | (go_ret; exact ⟨rfl, Below.refl _ _⟩)

theorem walkA (a : Option Addr) (len cap : Nat) (zs : List Int) (w : World)
    (h : (a = none ∧ len = 0 ∧ cap = 0 ∧ zs = []) ∨ ∃ x, a = some x ∧ len ≤ cap ∧ cap ≤ maxLen ∧ zs.length = cap ∧ (∀ i, i < zs.length → w.cell? (x.add i) = some (.int .u8 (zs.getD i 0))) ∧ ∀ n ∈ zs, (Lit.int .u8 n).wf = true) :
    Calls Try.prog 3 #[.slice a len cap] w fun e w' => e = .returned (.bool true) ∧ Below w.heap.size w w' := by
  rcases h with ⟨rfl, rfl, rfl, rfl⟩ | ⟨x, rfl, h1, h2, h3, h4, _⟩
  · exact walkA_nil w
  · by_cases hl : len ≤ 1048576
    · have T := text_of_cells len (by omega) h4
      have e : (zs.take len).length = len := by rw [List.length_take]; omega
      have k := walkA_some w x cap (zs.take len) (by omega) T
      rwa [e] at k
    · exact walkA_long w (some x) len cap (by omega) (by omega)

end Go.Proofs.Qxb6618080a
