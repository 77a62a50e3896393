/-
  The walks of ZZSpec and Resolve.
-/
import Derived.Test.Qxb6619347aRows
import Derived.WalkKit
import Derived.WalkSpells
import Derived.WalkLawsBesides
import Derived.RowKit3
namespace Go.Proofs.Qxb6619347a
open Go.RowKit

theorem spec_any (f l s : Int) (w : World) :
    Calls Try.prog 9 #[.int .i64 f, .int .i64 l, .int .i64 s] w fun e w' =>
      e = .returned (.agg #[.int .i64 f, .int .i64 l, .int .i64 s]) ∧ ∃ c1 : Array Value, w' = w.alloc (.cells c1 30) := by
  go_enter Try.func9, Try.ntmps9
  go_wp2
  simp [bodyPost, results, Try.results9, go_sem]
  exact ⟨_, rfl⟩

set_option maxHeartbeats 1000000 in
theorem resolve_in (f l s size : Int) (hf : 0 ≤ f) (hl : 0 ≤ l) (hls : l < size) (w : World) :
    Calls Try.prog 10 #[.agg #[.int .i64 f, .int .i64 l, .int .i64 s], .int .i64 size] w fun e w' =>
      e = .returned (.tuple #[.agg #[.int .i64 f, .int .i64 l], .bool (decide (f < size))]) ∧ ∃ c1 c2 c3 : Array Value, w' = (((w.alloc (.cells c1 30)).alloc (.cells c2 27)).alloc (.cells c3 27)).drew := by
  go_enter Try.func10, Try.ntmps10
  go_wp2
  go_region
  all_goals go_wp2
  all_goals simp [bodyPost, results, Try.results10, go_sem]
  exact ⟨_, _, _, rfl⟩

set_option maxHeartbeats 1000000 in
theorem resolve_neg (f l s size : Int) (hf : 0 ≤ f) (hl : l < 0) (h0 : 0 ≤ size) (h1 : size ≤ 9223372036854775807) (w : World) :
    Calls Try.prog 10 #[.agg #[.int .i64 f, .int .i64 l, .int .i64 s], .int .i64 size] w fun e w' =>
      e = .returned (.tuple #[.agg #[.int .i64 (f), .int .i64 (size - 1)], .bool (decide (f < size))]) ∧ ∃ c1 c2 c3 : Array Value, w' = (((w.alloc (.cells c1 30)).alloc (.cells c2 27)).alloc (.cells c3 27)).drew := by
  go_enter Try.func10, Try.ntmps10
  go_wp2
  go_region
  all_goals go_wp2
  all_goals simp [bodyPost, results, Try.results10, go_sem]
  exact ⟨_, _, _, rfl⟩

set_option maxHeartbeats 1000000 in
theorem resolve_far (f l s size : Int) (hf : 0 ≤ f) (hl : 0 ≤ l) (hls : size ≤ l) (h0 : 0 ≤ size) (h1 : size ≤ 9223372036854775807) (w : World) :
    Calls Try.prog 10 #[.agg #[.int .i64 f, .int .i64 l, .int .i64 s], .int .i64 size] w fun e w' =>
      e = .returned (.tuple #[.agg #[.int .i64 (f), .int .i64 (size - 1)], .bool (decide (f < size))]) ∧ ∃ c1 c2 c3 : Array Value, w' = (((w.alloc (.cells c1 30)).alloc (.cells c2 27)).alloc (.cells c3 27)).drew := by
  go_enter Try.func10, Try.ntmps10
  go_wp2
  go_region
  all_goals go_wp2
  all_goals simp [bodyPost, results, Try.results10, go_sem]
  exact ⟨_, _, _, rfl⟩

set_option maxHeartbeats 1000000 in
theorem resolve_suf (f l s size : Int) (hf : f < 0) (hl : l < 0) (hs : 0 ≤ s) (hss : s ≤ size) (h1 : size ≤ 9223372036854775807) (w : World) :
    Calls Try.prog 10 #[.agg #[.int .i64 f, .int .i64 l, .int .i64 s], .int .i64 size] w fun e w' =>
      e = .returned (.tuple #[.agg #[.int .i64 (size - s), .int .i64 (size - 1)], .bool (decide (size - s < size))]) ∧ ∃ c1 c2 c3 : Array Value, w' = (((w.alloc (.cells c1 30)).alloc (.cells c2 27)).alloc (.cells c3 27)).drew := by
  go_enter Try.func10, Try.ntmps10
  go_wp2
  go_region
  all_goals go_wp2
  all_goals simp [bodyPost, results, Try.results10, go_sem]
  exact ⟨_, _, _, rfl⟩

set_option maxHeartbeats 1000000 in
theorem resolve_all (f l s size : Int) (hf : f < 0) (hl : l < 0) (h0 : 0 ≤ size) (hss : size < s) (h1 : s ≤ 9223372036854775807) (w : World) :
    Calls Try.prog 10 #[.agg #[.int .i64 f, .int .i64 l, .int .i64 s], .int .i64 size] w fun e w' =>
      e = .returned (.tuple #[.agg #[.int .i64 (0), .int .i64 (size - 1)], .bool (decide (0 < size))]) ∧ ∃ c1 c2 c3 : Array Value, w' = (((w.alloc (.cells c1 30)).alloc (.cells c2 27)).alloc (.cells c3 27)).drew := by
  go_enter Try.func10, Try.ntmps10
  go_wp2
  go_region
  all_goals go_wp2
  all_goals simp [bodyPost, results, Try.results10, go_sem]
  exact ⟨_, _, _, rfl⟩

end Go.Proofs.Qxb6619347a
