/-
  The walk of FnResolveFromFirstClampsToTheEnd.
-/
import Derived.Test.Qxb6619347aRows
import Derived.WalkKit
import Derived.WalkSpells
import Derived.WalkLawsBesides
import Derived.RowKit3
import Derived.Test.Qxb6619347aWalkR
namespace Go.Proofs.Qxb6619347a
open Go.RowKit

set_option maxHeartbeats 2000000 in
theorem clamp_neg (f l s size cut : Int) (hf : 0 ≤ f) (hc : 0 ≤ cut) (hcs : cut ≤ size) (hsz : size ≤ 9223372036854775807) (hl : l < 0) (w : World) :
    Calls Try.prog 5 #[.int .i64 f, .int .i64 l, .int .i64 s, .int .i64 size, .int .i64 cut] w fun e w' => e = .returned (.bool true) ∧ Grown w w' := by
  go_enter Try.func5, Try.ntmps5
  go_wp2_with fail
  refine (spec_any f l s _).mono ?_
  rintro e w' ⟨rfl, o1, rfl⟩
  go_wp2_with fail
  refine (resolve_neg f l s size hf hl (by omega) (by omega) _).mono ?_
  rintro e w' ⟨rfl, o2, o3, o4, rfl⟩
  go_wp2_with fail
  refine (resolve_neg f l s cut hf hl (by omega) (by omega) _).mono ?_
  rintro e w' ⟨rfl, o5, o6, o7, rfl⟩
  go_wp2_with fail
  all_goals (go_ret; exact ⟨rfl, by repeat (first | exact Grown.refl _ | apply Grown.drew | apply Grown.alloc)⟩)

set_option maxHeartbeats 2000000 in
theorem clamp_low (f l s size cut : Int) (hf : 0 ≤ f) (hc : 0 ≤ cut) (hcs : cut ≤ size) (hsz : size ≤ 9223372036854775807) (hl : 0 ≤ l) (hlc : l < cut) (w : World) :
    Calls Try.prog 5 #[.int .i64 f, .int .i64 l, .int .i64 s, .int .i64 size, .int .i64 cut] w fun e w' => e = .returned (.bool true) ∧ Grown w w' := by
  go_enter Try.func5, Try.ntmps5
  go_wp2_with fail
  refine (spec_any f l s _).mono ?_
  rintro e w' ⟨rfl, o1, rfl⟩
  go_wp2_with fail
  refine (resolve_in f l s size hf hl (by omega) _).mono ?_
  rintro e w' ⟨rfl, o2, o3, o4, rfl⟩
  go_wp2_with fail
  refine (resolve_in f l s cut hf hl hlc _).mono ?_
  rintro e w' ⟨rfl, o5, o6, o7, rfl⟩
  go_wp2_with fail
  all_goals (go_ret; exact ⟨rfl, by repeat (first | exact Grown.refl _ | apply Grown.drew | apply Grown.alloc)⟩)

set_option maxHeartbeats 2000000 in
theorem clamp_mid (f l s size cut : Int) (hf : 0 ≤ f) (hc : 0 ≤ cut) (hcs : cut ≤ size) (hsz : size ≤ 9223372036854775807) (hl : 0 ≤ l) (hlc : cut ≤ l) (hls : l < size) (w : World) :
    Calls Try.prog 5 #[.int .i64 f, .int .i64 l, .int .i64 s, .int .i64 size, .int .i64 cut] w fun e w' => e = .returned (.bool true) ∧ Grown w w' := by
  go_enter Try.func5, Try.ntmps5
  go_wp2_with fail
  refine (spec_any f l s _).mono ?_
  rintro e w' ⟨rfl, o1, rfl⟩
  go_wp2_with fail
  refine (resolve_in f l s size hf hl hls _).mono ?_
  rintro e w' ⟨rfl, o2, o3, o4, rfl⟩
  go_wp2_with fail
  refine (resolve_far f l s cut hf hl hlc (by omega) (by omega) _).mono ?_
  rintro e w' ⟨rfl, o5, o6, o7, rfl⟩
  go_wp2_with fail
  all_goals (go_ret; exact ⟨rfl, by repeat (first | exact Grown.refl _ | apply Grown.drew | apply Grown.alloc)⟩)

set_option maxHeartbeats 2000000 in
theorem clamp_far (f l s size cut : Int) (hf : 0 ≤ f) (hc : 0 ≤ cut) (hcs : cut ≤ size) (hsz : size ≤ 9223372036854775807) (hl : 0 ≤ l) (hls : size ≤ l) (w : World) :
    Calls Try.prog 5 #[.int .i64 f, .int .i64 l, .int .i64 s, .int .i64 size, .int .i64 cut] w fun e w' => e = .returned (.bool true) ∧ Grown w w' := by
  go_enter Try.func5, Try.ntmps5
  go_wp2_with fail
  refine (spec_any f l s _).mono ?_
  rintro e w' ⟨rfl, o1, rfl⟩
  go_wp2_with fail
  refine (resolve_far f l s size hf hl hls (by omega) (by omega) _).mono ?_
  rintro e w' ⟨rfl, o2, o3, o4, rfl⟩
  go_wp2_with fail
  refine (resolve_far f l s cut hf hl (by omega) (by omega) (by omega) _).mono ?_
  rintro e w' ⟨rfl, o5, o6, o7, rfl⟩
  go_wp2_with fail
  all_goals (go_ret; exact ⟨rfl, by repeat (first | exact Grown.refl _ | apply Grown.drew | apply Grown.alloc)⟩)

set_option maxHeartbeats 1000000 in
theorem clamp_out (f l s size cut : Int) (h : f < 0 ∨ cut < 0 ∨ size < cut) (w : World) :
    Calls Try.prog 5 #[.int .i64 f, .int .i64 l, .int .i64 s, .int .i64 size, .int .i64 cut] w fun e w' => e = .returned (.bool true) ∧ Grown w w' := by
  by_cases h1 : f < 0
  · go_enter Try.func5, Try.ntmps5
    go_wp2_with fail
    go_ret
    exact ⟨rfl, Grown.refl _⟩
  · by_cases h2 : cut < 0
    · go_enter Try.func5, Try.ntmps5
      go_wp2_with fail
      go_ret
      exact ⟨rfl, Grown.refl _⟩
    · have h3 : size < cut := by omega
      go_enter Try.func5, Try.ntmps5
      go_wp2_with fail
      go_ret
      exact ⟨rfl, Grown.refl _⟩

theorem walkClamp (f l s size cut : Int) (hsz : size ≤ 9223372036854775807) (w : World) :
    Calls Try.prog 5 #[.int .i64 f, .int .i64 l, .int .i64 s, .int .i64 size, .int .i64 cut] w fun e w' => e = .returned (.bool true) ∧ Grown w w' := by
  by_cases h : f < 0 ∨ cut < 0 ∨ size < cut
  · exact clamp_out f l s size cut h w
  · have hf : 0 ≤ f := by omega
    have hc : 0 ≤ cut := by omega
    have hcs : cut ≤ size := by omega
    by_cases hl : l < 0
    · exact clamp_neg f l s size cut hf hc hcs hsz hl w
    · by_cases h1 : l < cut
      · exact clamp_low f l s size cut hf hc hcs hsz (by omega) h1 w
      · by_cases h2 : l < size
        · exact clamp_mid f l s size cut hf hc hcs hsz (by omega) (by omega) h2 w
        · exact clamp_far f l s size cut hf hc hcs hsz (by omega) (by omega) w

end Go.Proofs.Qxb6619347a
