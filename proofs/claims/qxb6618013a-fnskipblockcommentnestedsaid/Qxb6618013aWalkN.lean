/-
  The walk of zzCommentEnd.
-/
import Derived.Test.Qxb6618013aRows
import Derived.WalkKit
import Derived.WalkSpells
import Derived.WalkLawsBesides
import Derived.Test.Qxb6618013aWalkB
import Derived.Test.Qxb6618013aPlainN
namespace Go.Proofs.Qxb6618013a.Blk
open Go.RowKit
open Go.Proofs.Qxb6618013a.PlainB

theorem at2_yes {s : ByteArray} {k : Nat} {x y : Int} (h : k + 1 < s.size) (h1 : (s[k].toNat : Int) = x) (h2 : ((s[k + 1].toNat : Int) == y) = true) : at2B (bat s) s.size x y k = true :=
  at2B_mk ⟨h, by rw [bat_get s k (by omega)]; exact h1, by rw [bat_get s (k + 1) h]; simpa using h2⟩
theorem at2_no0 {s : ByteArray} {k : Nat} {x y : Int} (hk : k < s.size) (h1 : ¬ (s[k].toNat : Int) = x) : ¬ at2B (bat s) s.size x y k = true := by
  intro hx; have b := (at2B_true hx).2.1; rw [bat_get s k hk] at b; exact h1 b
theorem at2_no1 {s : ByteArray} {k : Nat} {x y : Int} (h : k + 1 < s.size) (h2 : ((s[k + 1].toNat : Int) == y) = false) : ¬ at2B (bat s) s.size x y k = true := by
  intro hx; have b := (at2B_true hx).2.2; rw [bat_get s (k + 1) h] at b; simp [b] at h2
theorem at2_short {s : ByteArray} {k : Nat} {x y : Int} (h : ¬ k + 1 < s.size) : ¬ at2B (bat s) s.size x y k = true :=
  fun hx => h (at2B_true hx).1

set_option maxHeartbeats 1000000 in
theorem commentEnd_any (s : ByteArray) (hs : s.size ≤ 65536) (N : Nat) : ∀ (p fu0 : Nat) (w : World), fu0 ≤ N → p + 1 < s.size → s.size < p + 2 + fu0 →
    Calls Try.prog 9 #[.string s, .int .i64 p] w fun e w' => e = .returned (.int .i64 (cl (bat s) s.size fu0 (p + 2))) ∧ w' = w := by
  induction N with
  | zero =>
    intro p fu0 w h1 h2 h3
    exfalso; omega
  | succ N ih =>
    intro p fu0 w hN hp hfu
    have IH : Hid (∀ (p fu0 : Nat) (w : World), fu0 ≤ N → p + 1 < s.size → s.size < p + 2 + fu0 → Calls Try.prog 9 #[.string s, .int .i64 p] w fun e w' => e = .returned (.int .i64 (cl (bat s) s.size fu0 (p + 2))) ∧ w' = w) := ih
    clear ih
    go_enter Try.func9, Try.ntmps9
    go_wp2_with fail
    go_loop [1] (fun i => ∃ (k fu : Nat), fu ≤ fu0 ∧ s.size < k + fu ∧ k ≤ s.size ∧ i = .int .i64 k ∧ Hid (cl (bat s) s.size fu k = cl (bat s) s.size fu0 (p + 2))) (fun i => s.size - (intOf i).toNat)
    case atStart => exact ⟨p + 2, fu0, by omega, by omega, by omega, by go_num, rfl⟩
    case round =>
      obtain ⟨k, fu, hk0, hk1, hk2, rfl, H⟩ := hrel
      by_cases hlt : k < s.size
      · obtain ⟨fu, rfl⟩ : ∃ f, fu = f + 1 := ⟨fu - 1, by omega⟩
        go_wp2_with fail
        · go_ret
          exact ⟨ret_int (by rw [← H.out, cl_close fu (at2_yes (by omega) ‹_› ‹_›)]), rfl⟩
        · go_round
          case rel => exact ⟨k + 1, fu, by omega, by omega, by omega, by go_num, (cl_next fu hlt (at2_no1 (by omega) ‹_›) (at2_no0 hlt (by omega))).symm.trans H.out⟩
          case measure => simp [intOf]; omega
        · have hk3 : k + 1 < s.size := by omega
          have nc : ¬ at2B (bat s) s.size 42 47 k = true := at2_no0 hlt (by omega)
          have yo : at2B (bat s) s.size 47 42 k = true := at2_yes hk3 ‹_› ‹_›
          have C : Hid (∀ w, Calls Try.prog 9 #[.string s, .int .i64 k] w fun e w' => e = .returned (.int .i64 (cl (bat s) s.size fu (k + 2))) ∧ w' = w) :=
            fun w => IH.out k fu w (by omega) hk3 (by omega)
          have bd := cl_bd (bat s) s.size fu (k + 2)
          by_cases he : cl (bat s) s.size fu (k + 2) < 0
          · have em : cl (bat s) s.size fu (k + 2) = -1 := by omega
            have H2 : Hid (-1 = cl (bat s) s.size fu0 (p + 2)) := (cl_lost fu nc yo he).symm.trans H.out
            rw [em] at C
            clear em he bd nc yo H
            refine (C.out _).mono ?_; rintro e w' ⟨rfl, rfl⟩
            go_wp2_with fail
            go_ret
            exact ⟨ret_int H2.out, rfl⟩
          · obtain ⟨m, em⟩ : ∃ m : Nat, cl (bat s) s.size fu (k + 2) = (m : Int) := ⟨(cl (bat s) s.size fu (k + 2)).toNat, by omega⟩
            have H2 : Hid (cl (bat s) s.size fu m = cl (bat s) s.size fu0 (p + 2)) := (cl_inner fu nc yo em).symm.trans H.out
            rw [em] at C bd
            have bd1 : k + 4 ≤ m := by omega
            have bd2 : m ≤ s.size := by omega
            clear em he bd nc yo H
            refine (C.out _).mono ?_; rintro e w' ⟨rfl, rfl⟩
            go_wp2_with fail
            go_round
            case rel => exact ⟨m, fu, by omega, by omega, by omega, rfl, H2⟩
            case measure => simp [intOf]; omega
        · go_round
          case rel => exact ⟨k + 1, fu, by omega, by omega, by omega, by go_num, (cl_next fu hlt (at2_no0 hlt ‹_›) (at2_no1 (by omega) ‹_›)).symm.trans H.out⟩
          case measure => simp [intOf]; omega
        · go_round
          case rel => exact ⟨k + 1, fu, by omega, by omega, by omega, by go_num, (cl_next fu hlt (at2_no0 hlt ‹_›) (at2_no0 hlt ‹_›)).symm.trans H.out⟩
          case measure => simp [intOf]; omega
        · go_round
          case rel => exact ⟨k + 1, fu, by omega, by omega, by omega, by go_num, (cl_next fu hlt (at2_short (by omega)) (at2_short (by omega))).symm.trans H.out⟩
          case measure => simp [intOf]; omega
      · go_wp2_with fail
        go_ret
        exact ⟨ret_int (by rw [← H.out, cl_out fu hlt]), rfl⟩

theorem zzBytesN_any (a : ByteArray) (i : Int) (w : World) (ha : a.size ≤ maxLen) :
    Calls Try.prog 8 #[.string a, .int .i64 i] w fun e w' => (e = .returned (.bool true) ∧ a.size ≤ 1048576 ∨ e = .returned (.bool false)) ∧ w' = w := by
  unfold maxLen at ha
  go_enter Try.func8, Try.ntmps8
  go_wp2
  all_goals (go_ret; first | exact ⟨Or.inr rfl, rfl⟩ | exact ⟨Or.inl ⟨rfl, by omega⟩, rfl⟩)

end Go.Proofs.Qxb6618013a.Blk
