/-
  The walks of skipQuoted, ZZskipQuoted and zzBytes_FnSkipQuotedLocal.
-/
import Derived.Test.Qxb6618013aRows
import Derived.WalkKit
import Derived.WalkSpells
import Derived.WalkLawsBesides
import Derived.Test.Qxb6618013aPlainQ
namespace Go.Proofs.Qxb6618013a
open Go.RowKit

def bat (s : ByteArray) (j : Nat) : Int := if h : j < s.size then (s[j].toNat : Int) else 0
theorem bat_get (s : ByteArray) (j : Nat) (h : j < s.size) : bat s j = (s[j].toNat : Int) := by
  unfold bat; rw [dif_pos h]

theorem st_esc (s : ByteArray) (q : Int) (bs : Bool) (fu k : Nat) (h : k < s.size) (h1 : ((s[k].toNat : Int) == 92) = true) (hb : bs = true) :
    PlainQ.sq (bat s) s.size q bs (fu + 1) k = PlainQ.sq (bat s) s.size q bs fu (k + 2) := by
  have e : bat s k = 92 := by rw [bat_get s k h]; simpa using h1
  rw [PlainQ.sq, if_pos h, if_pos e, if_pos hb]
theorem st_bsl (s : ByteArray) (q : Int) (bs : Bool) (fu k : Nat) (h : k < s.size) (h1 : ((s[k].toNat : Int) == 92) = true) (hb : bs = false) :
    PlainQ.sq (bat s) s.size q bs (fu + 1) k = PlainQ.sq (bat s) s.size q bs fu (k + 1) := by
  have e : bat s k = 92 := by rw [bat_get s k h]; simpa using h1
  rw [PlainQ.sq, if_pos h, if_pos e, if_neg (by rw [hb]; decide)]
theorem st_oth (s : ByteArray) (q : Int) (bs : Bool) (fu k : Nat) (h : k < s.size) (h1 : ((s[k].toNat : Int) == 92) = false) (h2 : ((s[k].toNat : Int) == q) = false) :
    PlainQ.sq (bat s) s.size q bs (fu + 1) k = PlainQ.sq (bat s) s.size q bs fu (k + 1) := by
  have e : ¬ bat s k = 92 := by rw [bat_get s k h]; simpa using h1
  have e2 : ¬ bat s k = q := by rw [bat_get s k h]; simpa using h2
  rw [PlainQ.sq, if_pos h, if_neg e, if_neg e2]
theorem st_dbl (s : ByteArray) (q : Int) (bs : Bool) (fu k : Nat) (h : k < s.size) (h1 : ((s[k].toNat : Int) == 92) = false) (h2 : ((s[k].toNat : Int) == q) = true) (h3 : k + 1 < s.size) (h4 : ((s[k + 1].toNat : Int) == q) = true) :
    PlainQ.sq (bat s) s.size q bs (fu + 1) k = PlainQ.sq (bat s) s.size q bs fu (k + 2) := by
  have e : ¬ bat s k = 92 := by rw [bat_get s k h]; simpa using h1
  have e2 : bat s k = q := by rw [bat_get s k h]; simpa using h2
  have e3 : bat s (k + 1) = q := by rw [bat_get s (k + 1) h3]; simpa using h4
  rw [PlainQ.sq, if_pos h, if_neg e, if_pos e2, if_pos ⟨h3, e3⟩]
theorem st_cls (s : ByteArray) (q : Int) (bs : Bool) (fu k : Nat) (h : k < s.size) (h1 : ((s[k].toNat : Int) == 92) = false) (h2 : ((s[k].toNat : Int) == q) = true) (h3 : k + 1 < s.size) (h4 : ((s[k + 1].toNat : Int) == q) = false) :
    PlainQ.sq (bat s) s.size q bs (fu + 1) k = k + 1 := by
  have e : ¬ bat s k = 92 := by rw [bat_get s k h]; simpa using h1
  have e2 : bat s k = q := by rw [bat_get s k h]; simpa using h2
  have e3 : ¬ bat s (k + 1) = q := by rw [bat_get s (k + 1) h3]; simpa using h4
  rw [PlainQ.sq, if_pos h, if_neg e, if_pos e2, if_neg (fun hx => e3 hx.2)]
theorem st_end (s : ByteArray) (q : Int) (bs : Bool) (fu k : Nat) (h : k < s.size) (h1 : ((s[k].toNat : Int) == 92) = false) (h2 : ((s[k].toNat : Int) == q) = true) (h3 : (s.size : Int) ≤ (k : Int) + 1) :
    PlainQ.sq (bat s) s.size q bs (fu + 1) k = k + 1 := by
  have e : ¬ bat s k = 92 := by rw [bat_get s k h]; simpa using h1
  have e2 : bat s k = q := by rw [bat_get s k h]; simpa using h2
  rw [PlainQ.sq, if_pos h, if_neg e, if_pos e2, if_neg (fun hx => by omega)]
theorem st_out (s : ByteArray) (q : Int) (bs : Bool) (fu k : Nat) (h : ¬ k < s.size) :
    PlainQ.sq (bat s) s.size q bs fu k = s.size := by
  cases fu with
  | zero => rfl
  | succ fu => rw [PlainQ.sq, if_neg h]
theorem ret_int {k : IntKind} {a b : Int} (h : a = b) : Ending.returned (.int k a) = .returned (.int k b) := by rw [h]

set_option maxHeartbeats 400000 in
theorem skipQuoted_any (s : ByteArray) (i0 fu0 : Nat) (q : Int) (bs : Bool) (w : World) (hs : s.size ≤ 1048576) (hi : i0 < s.size) (hfu : s.size < i0 + fu0) :
    Calls Try.prog 12 #[.string s, .int .i64 i0, .int .u8 q, .bool bs] w fun e w' => e = .returned (.int .i64 (PlainQ.sq (bat s) s.size q bs fu0 (i0 + 1) : Nat)) ∧ w' = w := by
  go_enter Try.func12, Try.ntmps12
  go_wp2
  go_loop [1] (fun i => ∃ k fu : Nat, s.size < k + fu + 0 ∧ k ≤ s.size + 1 ∧ i = .int .i64 k ∧ Hid (PlainQ.sq (bat s) s.size q bs fu k = PlainQ.sq (bat s) s.size q bs fu0 (i0 + 1))) (fun i => s.size + 1 - (intOf i).toNat)
  case atStart => exact ⟨i0 + 1, fu0, by omega, by omega, by go_num, rfl⟩
  case round =>
    obtain ⟨k, fu, hk1, hk2, rfl, H⟩ := hrel
    by_cases hlt : k < s.size
    · obtain ⟨fu, rfl⟩ : ∃ f, fu = f + 1 := ⟨fu - 1, by omega⟩
      go_wp2
      · go_round
        case rel => exact ⟨k + 2, fu, by omega, by omega, by go_num, (st_esc s q bs fu k hlt ‹_› ‹_›).symm.trans H.out⟩
        case measure => simp [intOf]; omega
      · go_round
        case rel => exact ⟨k + 1, fu, by omega, by omega, by go_num, (st_bsl s q bs fu k hlt ‹_› ‹_›).symm.trans H.out⟩
        case measure => simp [intOf]; omega
      · go_round
        case rel => exact ⟨k + 2, fu, by omega, by omega, by go_num, (st_dbl s q bs fu k hlt ‹_› ‹_› (by omega) ‹_›).symm.trans H.out⟩
        case measure => simp [intOf]; omega
      · go_ret
        exact ⟨ret_int (by rw [← H.out, st_cls s q bs fu k hlt ‹_› ‹_› (by omega) ‹_›]; omega), rfl⟩
      · go_ret
        exact ⟨ret_int (by rw [← H.out, st_end s q bs fu k hlt ‹_› ‹_› (by omega)]; omega), rfl⟩
      · go_round
        case rel => exact ⟨k + 1, fu, by omega, by omega, by go_num, (st_oth s q bs fu k hlt ‹_› ‹_›).symm.trans H.out⟩
        case measure => simp [intOf]; omega
    · go_wp2
      go_ret
      exact ⟨ret_int (by rw [← H.out, st_out s q bs fu k hlt]), rfl⟩

theorem zzSkipQuoted_any (s : ByteArray) (i0 fu0 : Nat) (q : Int) (bs : Bool) (w : World) (hs : s.size ≤ 1048576) (hi : i0 < s.size) (hfu : s.size < i0 + fu0) :
    Calls Try.prog 7 #[.string s, .int .i64 i0, .int .u8 q, .bool bs] w fun e w' => e = .returned (.int .i64 (PlainQ.sq (bat s) s.size q bs fu0 (i0 + 1) : Nat)) ∧ w' = w := by
  go_enter Try.func7, Try.ntmps7
  go_wp2_with (go_at_call 12; refine (skipQuoted_any s i0 fu0 q bs _ hs hi hfu).mono ?_; rintro e w' ⟨rfl, rfl⟩)
  go_ret
  exact ⟨rfl, rfl⟩

/-- zzBytes: the sum of the three lengths is at most 1<<20 -/
theorem zzBytesQ_any (a p o : ByteArray) (i q : Int) (bs : Bool) (w : World) (ha : a.size ≤ maxLen) (hp : p.size ≤ maxLen) (ho : o.size ≤ maxLen) :
    Calls Try.prog 6 #[.string a, .int .i64 i, .int .u8 q, .bool bs, .string p, .string o] w fun e w' => (e = .returned (.bool true) ∧ a.size + p.size + o.size ≤ 1048576 ∨ e = .returned (.bool false)) ∧ w' = w := by
  unfold maxLen at ha hp ho
  go_enter Try.func6, Try.ntmps6
  go_wp2
  all_goals (go_ret; first | exact ⟨Or.inr rfl, rfl⟩ | exact ⟨Or.inl ⟨rfl, by omega⟩, rfl⟩)

end Go.Proofs.Qxb6618013a
