/-
  The walk of FnResolveSuffixIsTheLastBytes, all inputs.
-/
import Derived.Test.Qxb6619347aLawF
namespace Go.Proofs.Qxb6619347a
open Go.RowKit

set_option maxHeartbeats 1000000 in
theorem suffix_out (f l s size : Int) (h : 0 ≤ f ∨ 0 ≤ l ∨ s < 0 ∨ size < 0) (w : World) :
    Calls Try.prog 4 #[.int .i64 f, .int .i64 l, .int .i64 s, .int .i64 size] w fun e w' => e = .returned (.bool true) ∧ Grown w w' := by
  by_cases h1 : 0 ≤ f
  · go_enter Try.func4, Try.ntmps4
    go_wp2_with fail
    go_ret
    exact ⟨rfl, Grown.refl _⟩
  · by_cases h2 : 0 ≤ l
    · go_enter Try.func4, Try.ntmps4
      go_wp2_with fail
      go_ret
      exact ⟨rfl, Grown.refl _⟩
    · by_cases h3 : s < 0
      · go_enter Try.func4, Try.ntmps4
        go_wp2_with fail
        go_ret
        exact ⟨rfl, Grown.refl _⟩
      · have h4 : size < 0 := by omega
        go_enter Try.func4, Try.ntmps4
        go_wp2_with fail
        go_ret
        exact ⟨rfl, Grown.refl _⟩

theorem walkSuffix (f l s size : Int) (hs1 : s ≤ 9223372036854775807) (hsz : size ≤ 9223372036854775807) (w : World) :
    Calls Try.prog 4 #[.int .i64 f, .int .i64 l, .int .i64 s, .int .i64 size] w fun e w' => e = .returned (.bool true) ∧ Grown w w' := by
  by_cases h : 0 ≤ f ∨ 0 ≤ l ∨ s < 0 ∨ size < 0
  · exact suffix_out f l s size h w
  · have hf : f < 0 := by omega
    have hl : l < 0 := by omega
    by_cases hz : size = 0
    · subst hz
      by_cases h0 : s = 0
      · subst h0; exact suffix_none f l hf hl w
      · exact suffix_overz f l s hf hl (by omega) hs1 w
    · by_cases h0 : s = 0
      · exact suffix_zero f l s size hf hl h0 (by omega) hsz w
      · by_cases h1 : s < size
        · exact suffix_mid f l s size hf hl (by omega) h1 hsz w
        · by_cases h2 : s = size
          · subst h2; exact suffix_whole f l s hf hl (by omega) hsz w
          · exact suffix_over f l s size hf hl (by omega) (by omega) hs1 w

end Go.Proofs.Qxb6619347a
