/-
  The walk of FnIsDecimalSplitsAtExponent, all inputs.
-/
import Derived.Test.Qxb6618080aLawX
namespace Go.Proofs.Qxb6618080a.Split
open Go.RowKit
open Go.Proofs.Qxb6618080a.Plain

set_option maxHeartbeats 2000000 in
theorem walkX_long1 (w : World) (a1 a2 : Option Addr) (n1 cap1 n2 cap2 : Nat) (h1 : n1 ≤ maxLen) (h2 : n2 ≤ maxLen) (hl : 524288 < n1) :
    Calls Try.prog 4 #[.slice a1 n1 cap1, .slice a2 n2 cap2] w fun e w' => e = .returned (.bool true) ∧ Below w.heap.size w w' := by
  go_enter Try.func4, Try.ntmps4
  go_wp2_with (first | (go_at_call 9; refine (zzBytesX_any a1 a2 n1 cap1 n2 cap2 _ h1 h2).mono ?_; rintro e w' ⟨⟨rfl, hsum⟩ | rfl, rfl⟩) | fail)
  all_goals (go_ret; exact ⟨rfl, Below.refl _ _⟩)

set_option maxHeartbeats 2000000 in
theorem walkX_long2 (w : World) (a1 a2 : Option Addr) (n1 cap1 n2 cap2 : Nat) (h1 : n1 ≤ maxLen) (h2 : n2 ≤ maxLen) (hs : n1 ≤ 524288) (hl : 524288 < n2) :
    Calls Try.prog 4 #[.slice a1 n1 cap1, .slice a2 n2 cap2] w fun e w' => e = .returned (.bool true) ∧ Below w.heap.size w w' := by
  go_enter Try.func4, Try.ntmps4
  go_wp2_with (first | (go_at_call 9; refine (zzBytesX_any a1 a2 n1 cap1 n2 cap2 _ h1 h2).mono ?_; rintro e w' ⟨⟨rfl, hsum⟩ | rfl, rfl⟩) | fail)
  all_goals (go_ret; exact ⟨rfl, Below.refl _ _⟩)

theorem walkX (a1 : Option Addr) (n1 cap1 : Nat) (z1 : List Int) (a2 : Option Addr) (n2 cap2 : Nat) (z2 : List Int) (w : World)
    (h : (a1 = none ∧ n1 = 0 ∧ cap1 = 0 ∧ z1 = []) ∨ ∃ x, a1 = some x ∧ n1 ≤ cap1 ∧ cap1 ≤ maxLen ∧ z1.length = cap1 ∧ (∀ i, i < z1.length → w.cell? (x.add i) = some (.int .u8 (z1.getD i 0))) ∧ ∀ n ∈ z1, (Lit.int .u8 n).wf = true)
    (g : (a2 = none ∧ n2 = 0 ∧ cap2 = 0 ∧ z2 = []) ∨ ∃ x, a2 = some x ∧ n2 ≤ cap2 ∧ cap2 ≤ maxLen ∧ z2.length = cap2 ∧ (∀ i, i < z2.length → w.cell? (x.add i) = some (.int .u8 (z2.getD i 0))) ∧ ∀ n ∈ z2, (Lit.int .u8 n).wf = true) :
    Calls Try.prog 4 #[.slice a1 n1 cap1, .slice a2 n2 cap2] w fun e w' => e = .returned (.bool true) ∧ Below w.heap.size w w' := by
  by_cases hl : n1 ≤ 524288 ∧ n2 ≤ 524288
  · rcases h with ⟨rfl, rfl, rfl, rfl⟩ | ⟨x, rfl, h1, h2, h3, h4, _⟩ <;> rcases g with ⟨rfl, rfl, rfl, rfl⟩ | ⟨y, rfl, g1, g2, g3, g4, _⟩
    · exact walkX_nn w
    · have U := text_of_cells n2 (by omega) g4
      have e : (z2.take n2).length = n2 := by rw [List.length_take]; omega
      have k := walkX_ns w y cap2 (z2.take n2) (by omega) U
      rwa [e] at k
    · have T := text_of_cells n1 (by omega) h4
      have e : (z1.take n1).length = n1 := by rw [List.length_take]; omega
      have k := walkX_sn w x cap1 (z1.take n1) (by omega) T
      rwa [e] at k
    · have T := text_of_cells n1 (by omega) h4
      have U := text_of_cells n2 (by omega) g4
      have e : (z1.take n1).length = n1 := by rw [List.length_take]; omega
      have f : (z2.take n2).length = n2 := by rw [List.length_take]; omega
      have k := walkX_ss w x cap1 (z1.take n1) (by omega) T y cap2 (z2.take n2) (by omega) U
      rwa [e, f] at k
  · have b1 : n1 ≤ maxLen := by
      rcases h with ⟨_, rfl, _, _⟩ | ⟨x, _, h1, h2, _⟩
      · unfold maxLen; omega
      · omega
    have b2 : n2 ≤ maxLen := by
      rcases g with ⟨_, rfl, _, _⟩ | ⟨x, _, h1, h2, _⟩
      · unfold maxLen; omega
      · omega
    by_cases h1 : n1 ≤ 524288
    · exact walkX_long2 w a1 a2 n1 cap1 n2 cap2 b1 b2 h1 (by omega)
    · exact walkX_long1 w a1 a2 n1 cap1 n2 cap2 b1 b2 (by omega)

end Go.Proofs.Qxb6618080a.Split
