/-
  The walks of ZZisDecimal, zzLeadingDigits, zzPrefix.
-/
import Derived.Test.Qxb6618080aRows
import Derived.WalkKit
import Derived.WalkSpells
import Derived.WalkLawsBesides
import Derived.Deep.OwnRows
import Derived.Test.Qxb6618080aWalkD
namespace Go.Proofs.Qxb6618080a
open Go.RowKit
open Go.Proofs.Qxb6618080a.Plain

theorem zzIsDecimal_any (w : World) (a : Option Addr) (cap : Nat) (l : List Int) (hl : l.length ≤ 2097153) (T : Text w a l) :
    Calls Try.prog 7 #[.slice a l.length cap] w fun e w' => e = .returned (.bool (acc 0 l)) ∧ Below w.heap.size w w' := by
  rw [← dec_acc]
  have C : Hid (∀ w, Text w a l → Calls Try.prog 15 #[.slice a l.length cap] w fun e w' => e = .returned (.bool (dec l)) ∧ Below w.heap.size w w') :=
    fun w T => isDecimal_any w a cap l hl T
  go_enter Try.func7, Try.ntmps7
  go_wp2_with fail
  refine (C.out _ T).mono ?_; rintro e w' ⟨rfl, hb⟩
  go_wp2_with fail
  go_ret
  exact ⟨rfl, hb⟩

/-- the run of digits behind an optional sign -/
def run (l : List Int) : List Int := (l.drop (sp l 0)).takeWhile isD

theorem run_len {l : List Int} {k j : Nat} (HK : Hid (sp l 0 = k)) (h : de l k = j) : (run l).length = j - k := by
  unfold run; rw [HK.out, ← h]; unfold de; omega
theorem run_getD {l : List Int} {k : Nat} (HK : Hid (sp l 0 = k)) (i : Nat) (hi : i < (run l).length) : (run l).getD i 0 = l.getD (k + i) 0 := by
  have hp : run l <+: l.drop k := by unfold run; rw [HK.out]; exact List.takeWhile_prefix _
  obtain ⟨r, hr⟩ := hp
  have e : (l.drop k).getD i 0 = (run l).getD i 0 := by
    rw [← hr]; simp only [List.getD_eq_getElem?_getD]; rw [List.getElem?_append_left hi]
  rw [← e]; simp only [List.getD_eq_getElem?_getD]; rw [List.getElem?_drop]
theorem run_le {l : List Int} {k : Nat} (HK : Hid (sp l 0 = k)) : (run l).length ≤ l.length - k := by
  have hp : run l <+: l.drop k := by unfold run; rw [HK.out]; exact List.takeWhile_prefix _
  have := hp.length_le
  rw [List.length_drop] at this; exact this

/-- what zzLeadingDigits hands back -/
def RunRes (w : World) (l : List Int) (e : Ending) : Prop := ∃ a' cap', e = .returned (.slice a' (run l).length cap') ∧ Text w a' (run l)

theorem leading_end {w : World} {l : List Int} {b off k j c : Nat} (T : Text w (some ⟨b, off, none⟩) l) (HK : Hid (sp l 0 = k)) (h : de l k = j) :
    RunRes w l (.returned (.slice (some ⟨b, off + k, none⟩) (j - k) c)) ∧ w = w := by
  refine ⟨⟨some ⟨b, off + k, none⟩, c, by rw [run_len HK h], ?_⟩, rfl⟩
  intro i hi
  have hle := run_le HK
  obtain ⟨b', off', g1, g2⟩ := T (k + i) (by omega)
  simp only [Option.some.injEq, Addr.mk.injEq, and_true] at g1
  obtain ⟨rfl, rfl⟩ := g1
  exact ⟨b, off + k, rfl, by rw [run_getD HK i hi, Nat.add_assoc]; exact g2⟩
theorem leading_none {w : World} {l : List Int} {k j c n : Nat} {a : Option Addr} (HK : Hid (sp l 0 = k)) (h : de l k = j) (hjk : j = k ∧ n = 0) :
    RunRes w l (.returned (.slice a n c)) ∧ w = w := by
  have e : (run l).length = 0 := by rw [run_len HK h]; omega
  refine ⟨⟨a, c, by rw [e, hjk.2], ?_⟩, rfl⟩
  intro i hi; omega

theorem runres_nil (w : World) (a : Option Addr) (c : Nat) : RunRes w [] (.returned (.slice a 0 c)) ∧ w = w :=
  ⟨⟨a, c, rfl, fun i hi => by simp [run] at hi⟩, rfl⟩

set_option maxHeartbeats 2000000 in
theorem leading_any (w : World) (a : Option Addr) (cap : Nat) (l : List Int) (hl : l.length ≤ 2097153) (hcap : l.length ≤ cap) (hcm : cap ≤ 2097153) (T : Text w a l) (hnil : a = none → cap = 0) :
    Calls Try.prog 12 #[.slice a l.length cap] w fun e w' => RunRes w l e ∧ w' = w := by
  by_cases h0 : 0 < l.length
  · obtain ⟨b, off, h1, h2⟩ := T 0 h0
    obtain ⟨c, hc⟩ : ∃ c, c = l.getD 0 0 := ⟨_, rfl⟩
    rw [← hc] at h2
    have HC : Hid (c = l.getD 0 0) := hc
    clear hc
    subst h1
    clear hnil
    simp only [Nat.add_zero] at h2
    by_cases h43 : c = 43
    · have HK : Hid (sp l 0 = 1) := sp_yes h0 (by rw [← HC.out, h43]; rfl)
      subst h43
      go_enter Try.func12, Try.ntmps12
      go_wp2
      go_loop [4] (fun e => ∃ j : Nat, 1 ≤ j ∧ j ≤ l.length ∧ e = .int .i64 j ∧ Hid (de l j = de l 1)) (fun e => l.length - (intOf e).toNat)
      case atStart => exact ⟨1, by omega, by omega, rfl, rfl⟩
      case round =>
        obtain ⟨j, hj1, hj2, rfl, HJ⟩ := hrel
        by_cases hlt : j < l.length
        · obtain ⟨b', off', g1, g2⟩ := T j hlt
          simp only [Option.some.injEq, Addr.mk.injEq, and_true] at g1
          obtain ⟨rfl, rfl⟩ := g1
          obtain ⟨d, hd⟩ : ∃ d, d = l.getD j 0 := ⟨_, rfl⟩
          rw [← hd] at g2
          have HD : Hid (d = l.getD j 0) := hd
          clear hd
          go_wp2
          · go_round
            case rel => exact ⟨j + 1, by omega, by omega, by go_num, (de_step l j hlt (by rw [← HD.out]; exact isD_of ‹_› ‹_›)).trans HJ.out⟩
            case measure => simp [intOf]; omega
          · go_ret
            exact leading_end T HK (by rw [← HJ.out]; exact de_stop l j hlt (by rw [← HD.out]; exact isD_hi ‹_›))
          · go_ret
            exact leading_end T HK (by rw [← HJ.out]; exact de_stop l j hlt (by rw [← HD.out]; exact isD_lo ‹_›))
        · go_wp2
          all_goals go_ret
          all_goals first | exact leading_end T HK (by rw [← HJ.out]; exact de_end l j hlt) | exact leading_none (j := j) HK (by rw [← HJ.out]; exact de_end l j hlt) ⟨by omega, by omega⟩
    · by_cases h45 : c = 45
      · have HK : Hid (sp l 0 = 1) := sp_yes h0 (by rw [← HC.out, h45]; rfl)
        subst h45; clear h43
        go_enter Try.func12, Try.ntmps12
        go_wp2
        go_loop [4] (fun e => ∃ j : Nat, 1 ≤ j ∧ j ≤ l.length ∧ e = .int .i64 j ∧ Hid (de l j = de l 1)) (fun e => l.length - (intOf e).toNat)
        case atStart => exact ⟨1, by omega, by omega, rfl, rfl⟩
        case round =>
          obtain ⟨j, hj1, hj2, rfl, HJ⟩ := hrel
          by_cases hlt : j < l.length
          · obtain ⟨b', off', g1, g2⟩ := T j hlt
            simp only [Option.some.injEq, Addr.mk.injEq, and_true] at g1
            obtain ⟨rfl, rfl⟩ := g1
            obtain ⟨d, hd⟩ : ∃ d, d = l.getD j 0 := ⟨_, rfl⟩
            rw [← hd] at g2
            have HD : Hid (d = l.getD j 0) := hd
            clear hd
            go_wp2
            · go_round
              case rel => exact ⟨j + 1, by omega, by omega, by go_num, (de_step l j hlt (by rw [← HD.out]; exact isD_of ‹_› ‹_›)).trans HJ.out⟩
              case measure => simp [intOf]; omega
            · go_ret
              exact leading_end T HK (by rw [← HJ.out]; exact de_stop l j hlt (by rw [← HD.out]; exact isD_hi ‹_›))
            · go_ret
              exact leading_end T HK (by rw [← HJ.out]; exact de_stop l j hlt (by rw [← HD.out]; exact isD_lo ‹_›))
          · go_wp2
            all_goals go_ret
            all_goals first | exact leading_end T HK (by rw [← HJ.out]; exact de_end l j hlt) | exact leading_none (j := j) HK (by rw [← HJ.out]; exact de_end l j hlt) ⟨by omega, by omega⟩
      · have g43 : (c == 43) = false := by simpa using h43
        have g45 : (c == 45) = false := by simpa using h45
        have HK : Hid (sp l 0 = 0) := sp_no (by rw [← HC.out]; unfold isS; simp; omega)
        clear h43 h45
        go_enter Try.func12, Try.ntmps12
        go_wp2
        go_loop [4] (fun e => ∃ j : Nat, 0 ≤ j ∧ j ≤ l.length ∧ e = .int .i64 j ∧ Hid (de l j = de l 0)) (fun e => l.length - (intOf e).toNat)
        case atStart => exact ⟨0, by omega, by omega, rfl, rfl⟩
        case round =>
          obtain ⟨j, hj1, hj2, rfl, HJ⟩ := hrel
          by_cases hlt : j < l.length
          · obtain ⟨b', off', g1, g2⟩ := T j hlt
            simp only [Option.some.injEq, Addr.mk.injEq, and_true] at g1
            obtain ⟨rfl, rfl⟩ := g1
            obtain ⟨d, hd⟩ : ∃ d, d = l.getD j 0 := ⟨_, rfl⟩
            rw [← hd] at g2
            have HD : Hid (d = l.getD j 0) := hd
            clear hd
            go_wp2
            · go_round
              case rel => exact ⟨j + 1, by omega, by omega, by go_num, (de_step l j hlt (by rw [← HD.out]; exact isD_of ‹_› ‹_›)).trans HJ.out⟩
              case measure => simp [intOf]; omega
            · go_ret
              exact leading_end T HK (by rw [← HJ.out]; exact de_stop l j hlt (by rw [← HD.out]; exact isD_hi ‹_›))
            · go_ret
              exact leading_end T HK (by rw [← HJ.out]; exact de_stop l j hlt (by rw [← HD.out]; exact isD_lo ‹_›))
          · go_wp2
            all_goals go_ret
            all_goals first | exact leading_end T HK (by rw [← HJ.out]; exact de_end l j hlt) | exact leading_none (j := j) HK (by rw [← HJ.out]; exact de_end l j hlt) ⟨by omega, by omega⟩
  · have e0 : l = [] := List.eq_nil_of_length_eq_zero (by omega)
    subst e0
    simp only [List.length_nil] at *
    cases a with
    | none =>
      have hc0 := hnil rfl
      subst hc0
      clear hnil T h0
      go_enter Try.func12, Try.ntmps12
      go_wp2
      go_loop [4] (fun e => e = .int .i64 0) (fun e => 0)
      case atStart => rfl
      case round =>
        subst hrel
        go_wp2
        go_ret
        exact runres_nil w _ _
    | some x =>
      clear hnil T h0
      obtain ⟨b, off, q⟩ := x
      go_enter Try.func12, Try.ntmps12
      go_wp2
      go_loop [4] (fun e => e = .int .i64 0) (fun e => 0)
      case atStart => rfl
      case round =>
        subst hrel
        go_wp2
        all_goals go_ret
        all_goals exact runres_nil w _ _

end Go.Proofs.Qxb6618080a
