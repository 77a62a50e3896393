/-
  The walk of FnResolveSuffixIsTheLastBytes.
-/
import Derived.Test.Qxb6619347aRows
import Derived.WalkKit
import Derived.WalkSpells
import Derived.WalkLawsBesides
import Derived.RowKit3
import Derived.Test.Qxb6619347aWalkR
namespace Go.Proofs.Qxb6619347a
open Go.RowKit

theorem res_suf (f l s size : Int) (b : Bool) (hf : f < 0) (hl : l < 0) (hs : 0 ≤ s) (hss : s ≤ size) (h1 : size ≤ 9223372036854775807) (hb : decide (size - s < size) = b) (w : World) :
    Calls Try.prog 10 #[.agg #[.int .i64 f, .int .i64 l, .int .i64 s], .int .i64 size] w fun e w' =>
      e = .returned (.tuple #[.agg #[.int .i64 (size - s), .int .i64 (size - 1)], .bool b]) ∧ ∃ c1 c2 c3 : Array Value, w' = (((w.alloc (.cells c1 30)).alloc (.cells c2 27)).alloc (.cells c3 27)).drew := by
  rw [← hb]; exact resolve_suf f l s size hf hl hs hss h1 w
theorem res_all (f l s size : Int) (b : Bool) (hf : f < 0) (hl : l < 0) (h0 : 0 ≤ size) (hss : size < s) (h1 : s ≤ 9223372036854775807) (hb : decide (0 < size) = b) (w : World) :
    Calls Try.prog 10 #[.agg #[.int .i64 f, .int .i64 l, .int .i64 s], .int .i64 size] w fun e w' =>
      e = .returned (.tuple #[.agg #[.int .i64 0, .int .i64 (size - 1)], .bool b]) ∧ ∃ c1 c2 c3 : Array Value, w' = (((w.alloc (.cells c1 30)).alloc (.cells c2 27)).alloc (.cells c3 27)).drew := by
  rw [← hb]; exact resolve_all f l s size hf hl h0 hss h1 w
theorem res_neg (f l s size : Int) (b : Bool) (hf : 0 ≤ f) (hl : l < 0) (h0 : 0 ≤ size) (h1 : size ≤ 9223372036854775807) (hb : decide (f < size) = b) (w : World) :
    Calls Try.prog 10 #[.agg #[.int .i64 f, .int .i64 l, .int .i64 s], .int .i64 size] w fun e w' =>
      e = .returned (.tuple #[.agg #[.int .i64 f, .int .i64 (size - 1)], .bool b]) ∧ ∃ c1 c2 c3 : Array Value, w' = (((w.alloc (.cells c1 30)).alloc (.cells c2 27)).alloc (.cells c3 27)).drew := by
  rw [← hb]; exact resolve_neg f l s size hf hl h0 h1 w
theorem res_in (f l s size : Int) (b : Bool) (hf : 0 ≤ f) (hl : 0 ≤ l) (hls : l < size) (hb : decide (f < size) = b) (w : World) :
    Calls Try.prog 10 #[.agg #[.int .i64 f, .int .i64 l, .int .i64 s], .int .i64 size] w fun e w' =>
      e = .returned (.tuple #[.agg #[.int .i64 f, .int .i64 l], .bool b]) ∧ ∃ c1 c2 c3 : Array Value, w' = (((w.alloc (.cells c1 30)).alloc (.cells c2 27)).alloc (.cells c3 27)).drew := by
  rw [← hb]; exact resolve_in f l s size hf hl hls w

set_option maxHeartbeats 2000000 in
theorem suffix_mid (f l s size : Int) (hf : f < 0) (hl : l < 0) (h0 : 0 < s) (hss : s < size) (h1 : size ≤ 9223372036854775807) (w : World) :
    Calls Try.prog 4 #[.int .i64 f, .int .i64 l, .int .i64 s, .int .i64 size] w fun e w' => e = .returned (.bool true) ∧ Grown w w' := by
  go_enter Try.func4, Try.ntmps4
  go_wp2_with fail
  refine (spec_any f l s _).mono ?_
  rintro e w' ⟨rfl, o1, rfl⟩
  go_wp2_with fail
  refine (res_suf f l s size true hf hl (by omega) (by omega) h1 (decide_eq_true (by omega)) _).mono ?_
  rintro e w' ⟨rfl, o2, o3, o4, rfl⟩
  go_wp2_with fail
  refine (spec_any (size - s) (-1) 0 _).mono ?_
  rintro e w' ⟨rfl, o5, rfl⟩
  go_wp2_with fail
  refine (res_neg (size - s) (-1) 0 size true (by omega) (by omega) (by omega) h1 (decide_eq_true (by omega)) _).mono ?_
  rintro e w' ⟨rfl, o6, o7, o8, rfl⟩
  go_wp2_with fail
  refine (spec_any 0 (size - s - 1) 0 _).mono ?_
  rintro e w' ⟨rfl, o9, rfl⟩
  go_wp2_with fail
  refine (res_in 0 (size - s - 1) 0 size true (by omega) (by omega) (by omega) (decide_eq_true (by omega)) _).mono ?_
  rintro e w' ⟨rfl, o10, o11, o12, rfl⟩
  go_wp2_with fail
  go_ret
  refine ⟨rfl, ?_⟩
  refine Grown.drew (Grown.drew (Grown.drew (?_)))
  iterate 15 refine Grown.alloc ?_ _ _
  exact Grown.refl _

set_option maxHeartbeats 2000000 in
theorem suffix_zero (f l s size : Int) (hf : f < 0) (hl : l < 0) (h0 : s = 0) (hss : 0 < size) (h1 : size ≤ 9223372036854775807) (w : World) :
    Calls Try.prog 4 #[.int .i64 f, .int .i64 l, .int .i64 s, .int .i64 size] w fun e w' => e = .returned (.bool true) ∧ Grown w w' := by
  subst h0
  go_enter Try.func4, Try.ntmps4
  go_wp2_with fail
  refine (spec_any f l 0 _).mono ?_
  rintro e w' ⟨rfl, o1, rfl⟩
  go_wp2_with fail
  refine (res_suf f l 0 size false hf hl (by omega) (by omega) h1 (decide_eq_false (by omega)) _).mono ?_
  rintro e w' ⟨rfl, o2, o3, o4, rfl⟩
  go_wp2_with fail
  refine (spec_any (size) (-1) 0 _).mono ?_
  rintro e w' ⟨rfl, o5, rfl⟩
  go_wp2_with fail
  refine (res_neg size (-1) 0 size false (by omega) (by omega) (by omega) h1 (decide_eq_false (by omega)) _).mono ?_
  rintro e w' ⟨rfl, o6, o7, o8, rfl⟩
  go_wp2_with fail
  refine (spec_any 0 (size - 1) 0 _).mono ?_
  rintro e w' ⟨rfl, o9, rfl⟩
  go_wp2_with fail
  refine (res_in 0 (size - 1) 0 size true (by omega) (by omega) (by omega) (decide_eq_true (by omega)) _).mono ?_
  rintro e w' ⟨rfl, o10, o11, o12, rfl⟩
  go_wp2_with fail
  go_ret
  refine ⟨rfl, ?_⟩
  refine Grown.drew (Grown.drew (Grown.drew (?_)))
  iterate 15 refine Grown.alloc ?_ _ _
  exact Grown.refl _

set_option maxHeartbeats 2000000 in
theorem suffix_whole (f l size : Int) (hf : f < 0) (hl : l < 0) (hss : 0 < size) (h1 : size ≤ 9223372036854775807) (w : World) :
    Calls Try.prog 4 #[.int .i64 f, .int .i64 l, .int .i64 size, .int .i64 size] w fun e w' => e = .returned (.bool true) ∧ Grown w w' := by
  go_enter Try.func4, Try.ntmps4
  go_wp2_with fail
  refine (spec_any f l size _).mono ?_
  rintro e w' ⟨rfl, o1, rfl⟩
  go_wp2_with fail
  refine (res_suf f l size size true hf hl (by omega) (by omega) h1 (decide_eq_true (by omega)) _).mono ?_
  rintro e w' ⟨rfl, o2, o3, o4, rfl⟩
  go_wp2_with fail
  refine (spec_any 0 (-1) 0 _).mono ?_
  rintro e w' ⟨rfl, o5, rfl⟩
  go_wp2_with fail
  refine (res_neg 0 (-1) 0 size true (by omega) (by omega) (by omega) h1 (decide_eq_true (by omega)) _).mono ?_
  rintro e w' ⟨rfl, o6, o7, o8, rfl⟩
  go_wp2_with fail
  go_ret
  refine ⟨rfl, ?_⟩
  refine Grown.drew (Grown.drew (?_))
  iterate 10 refine Grown.alloc ?_ _ _
  exact Grown.refl _

set_option maxHeartbeats 2000000 in
theorem suffix_over (f l s size : Int) (hf : f < 0) (hl : l < 0) (h0 : 0 < size) (hss : size < s) (h1 : s ≤ 9223372036854775807) (w : World) :
    Calls Try.prog 4 #[.int .i64 f, .int .i64 l, .int .i64 s, .int .i64 size] w fun e w' => e = .returned (.bool true) ∧ Grown w w' := by
  go_enter Try.func4, Try.ntmps4
  go_wp2_with fail
  refine (spec_any f l s _).mono ?_
  rintro e w' ⟨rfl, o1, rfl⟩
  go_wp2_with fail
  refine (res_all f l s size true hf hl (by omega) hss h1 (decide_eq_true (by omega)) _).mono ?_
  rintro e w' ⟨rfl, o2, o3, o4, rfl⟩
  go_wp2_with fail
  refine (spec_any 0 (-1) 0 _).mono ?_
  rintro e w' ⟨rfl, o5, rfl⟩
  go_wp2_with fail
  refine (res_neg 0 (-1) 0 size true (by omega) (by omega) (by omega) (by omega) (decide_eq_true (by omega)) _).mono ?_
  rintro e w' ⟨rfl, o6, o7, o8, rfl⟩
  go_wp2_with fail
  go_ret
  refine ⟨rfl, ?_⟩
  refine Grown.drew (Grown.drew (?_))
  iterate 10 refine Grown.alloc ?_ _ _
  exact Grown.refl _

set_option maxHeartbeats 2000000 in
theorem suffix_overz (f l s : Int) (hf : f < 0) (hl : l < 0) (hss : 0 < s) (h1 : s ≤ 9223372036854775807) (w : World) :
    Calls Try.prog 4 #[.int .i64 f, .int .i64 l, .int .i64 s, .int .i64 0] w fun e w' => e = .returned (.bool true) ∧ Grown w w' := by
  go_enter Try.func4, Try.ntmps4
  go_wp2_with fail
  refine (spec_any f l s _).mono ?_
  rintro e w' ⟨rfl, o1, rfl⟩
  go_wp2_with fail
  refine (res_all f l s 0 false hf hl (by omega) hss h1 (decide_eq_false (by omega)) _).mono ?_
  rintro e w' ⟨rfl, o2, o3, o4, rfl⟩
  go_wp2_with fail
  refine (spec_any 0 (-1) 0 _).mono ?_
  rintro e w' ⟨rfl, o5, rfl⟩
  go_wp2_with fail
  refine (res_neg 0 (-1) 0 0 false (by omega) (by omega) (by omega) (by omega) (decide_eq_false (by omega)) _).mono ?_
  rintro e w' ⟨rfl, o6, o7, o8, rfl⟩
  go_wp2_with fail
  go_ret
  refine ⟨rfl, ?_⟩
  refine Grown.drew (Grown.drew (?_))
  iterate 10 refine Grown.alloc ?_ _ _
  exact Grown.refl _

set_option maxHeartbeats 2000000 in
theorem suffix_none (f l : Int) (hf : f < 0) (hl : l < 0) (w : World) :
    Calls Try.prog 4 #[.int .i64 f, .int .i64 l, .int .i64 0, .int .i64 0] w fun e w' => e = .returned (.bool true) ∧ Grown w w' := by
  go_enter Try.func4, Try.ntmps4
  go_wp2_with fail
  refine (spec_any f l 0 _).mono ?_
  rintro e w' ⟨rfl, o1, rfl⟩
  go_wp2_with fail
  refine (res_suf f l 0 0 false hf hl (by omega) (by omega) (by omega) (decide_eq_false (by omega)) _).mono ?_
  rintro e w' ⟨rfl, o2, o3, o4, rfl⟩
  go_wp2_with fail
  refine (spec_any 0 (-1) 0 _).mono ?_
  rintro e w' ⟨rfl, o5, rfl⟩
  go_wp2_with fail
  refine (res_neg 0 (-1) 0 0 false (by omega) (by omega) (by omega) (by omega) (decide_eq_false (by omega)) _).mono ?_
  rintro e w' ⟨rfl, o6, o7, o8, rfl⟩
  go_wp2_with fail
  go_ret
  refine ⟨rfl, ?_⟩
  refine Grown.drew (Grown.drew (?_))
  iterate 10 refine Grown.alloc ?_ _ _
  exact Grown.refl _

end Go.Proofs.Qxb6619347a
