/-
  The walks of HasPrefix, skipBlockComment, ZZskipBlockComment.
-/
import Derived.Test.Qxb6618013aRows
import Derived.WalkKit
import Derived.WalkSpells
import Derived.WalkLawsBesides
import Derived.Lib.Strings
import Derived.Test.Qxb6618013aPlainB
namespace Go.Proofs.Qxb6618013a.Blk
open Go.RowKit
open Go.Proofs.Qxb6618013a.PlainB

def bat (s : ByteArray) (j : Nat) : Int := if h : j < s.size then (s[j].toNat : Int) else 0
theorem bat_get (s : ByteArray) (j : Nat) (h : j < s.size) : bat s j = (s[j].toNat : Int) := by
  unfold bat; rw [dif_pos h]
theorem bat_extract (s : ByteArray) (n j : Nat) (hn : n ≤ s.size) (hj : j < n) : bat (s.extract 0 n) j = bat s j := by
  have hz : (s.extract 0 n).size = n := by rw [ByteArray.size_extract]; omega
  rw [bat_get _ j (by omega), bat_get s j (by omega), ByteArray.getElem_extract]
  simp
theorem bat_append (a b c : ByteArray) (j : Nat) (hj : j < b.size) : bat (a ++ b ++ c) (a.size + j) = bat b j := by
  have hz : (a ++ b).size = a.size + b.size := ByteArray.size_append
  have hz2 : (a ++ b ++ c).size = a.size + b.size + c.size := by rw [ByteArray.size_append, hz]
  rw [bat_get _ (a.size + j) (by omega), bat_get b j hj, ByteArray.getElem_append_left (by omega), ByteArray.getElem_append_right (by omega)]
  simp
theorem ret_int {k : IntKind} {a b : Int} (h : a = b) : Ending.returned (.int k a) = .returned (.int k b) := by rw [h]

theorem pre2_eq (s : ByteArray) (k : Nat) (x y : UInt8) (h : k + 1 < s.size) :
    (((s.extract k s.size).extract 0 2).toList == (⟨#[x, y]⟩ : ByteArray).toList) = at2B (bat s) s.size x.toNat y.toNat k := by
  have hl : s.data.toList.length = s.size := by rw [Lib.size_eq]
  have e : ((s.extract k s.size).extract 0 2).toList = [s[k], s[k + 1]] := by
    rw [Lib.extract_toList, Lib.extract_data, List.drop_zero, List.take_take]
    rw [List.drop_eq_getElem_cons (by omega), List.drop_eq_getElem_cons (by omega)]
    rw [show min (2 - 0) (s.size - k) = 2 from by omega]
    rfl
  rw [e, Lib.toList_data]
  unfold at2B
  rw [bat_get s k (by omega), bat_get s (k + 1) h, Bool.eq_iff_iff]
  simp only [beq_iff_eq, decide_eq_true_eq]
  constructor
  · intro hx
    simp only [List.cons.injEq, and_true] at hx
    exact ⟨h, by rw [hx.1], by rw [hx.2]⟩
  · intro hx
    have h1 : s[k] = x := UInt8.toNat_inj.mp (by omega)
    have h2 : s[k + 1] = y := UInt8.toNat_inj.mp (by omega)
    rw [h1, h2]

set_option maxHeartbeats 400000 in
theorem hasPrefix15 (s : ByteArray) (k : Nat) (x y : UInt8) (w : World) (ht : s.size ≤ 1048576) (hk : k < s.size) :
    Calls Try.prog 15 #[.string (s.extract k s.size), .string ⟨#[x, y]⟩] w fun e w' => e = .returned (.bool (at2B (bat s) s.size x.toNat y.toNat k)) ∧ w' = w := by
  by_cases h : k + 1 < s.size
  · have P := pre2_eq s k x y h
    obtain ⟨t, hte⟩ : ∃ t, t = s.extract k s.size := ⟨_, rfl⟩
    obtain ⟨p, hpe⟩ : ∃ p : ByteArray, p = ⟨#[x, y]⟩ := ⟨_, rfl⟩
    have hz : t.size = s.size - k := by rw [hte, ByteArray.size_extract]; omega
    have hp : p.size = 2 := by rw [hpe]; rfl
    have ht2 : 2 ≤ t.size := by omega
    have ht3 : t.size ≤ 1048576 := by omega
    rw [← hpe, ← hte] at P
    rw [← hpe, ← hte]
    clear hte hpe hz
    have HP : Hid (((t.extract 0 2).toList == p.toList) = at2B (bat s) s.size x.toNat y.toNat k) := P
    clear P h hk ht
    go_enter Try.func15, Try.ntmps15
    go_wp2
    go_ret
    exact ⟨by rw [HP.out]; rfl, rfl⟩
  · have hf : at2B (bat s) s.size x.toNat y.toNat k = false := by
      unfold at2B; rw [decide_eq_false]; intro hx; exact h hx.1
    obtain ⟨t, hte⟩ : ∃ t, t = s.extract k s.size := ⟨_, rfl⟩
    obtain ⟨p, hpe⟩ : ∃ p : ByteArray, p = ⟨#[x, y]⟩ := ⟨_, rfl⟩
    have hz : t.size = s.size - k := by rw [hte, ByteArray.size_extract]; omega
    have hp : p.size = 2 := by rw [hpe]; rfl
    have ht2 : t.size < 2 := by omega
    rw [← hpe, ← hte, hf]
    clear hte hpe hz hf h hk ht
    go_enter Try.func15, Try.ntmps15
    go_wp2
    go_ret
    exact ⟨rfl, rfl⟩

theorem hasPrefix14 (s : ByteArray) (k : Nat) (x y : UInt8) (w : World) (ht : s.size ≤ 1048576) (hk : k < s.size) :
    Calls Try.prog 14 #[.string (s.extract k s.size), .string ⟨#[x, y]⟩] w fun e w' => e = .returned (.bool (at2B (bat s) s.size x.toNat y.toNat k)) ∧ w' = w := by
  have C : Hid (∀ w, Calls Try.prog 15 #[.string (s.extract k s.size), .string ⟨#[x, y]⟩] w fun e w' => e = .returned (.bool (at2B (bat s) s.size x.toNat y.toNat k)) ∧ w' = w) :=
    fun w => hasPrefix15 s k x y w ht hk
  obtain ⟨t, hte⟩ : ∃ t, t = s.extract k s.size := ⟨_, rfl⟩
  obtain ⟨p, hpe⟩ : ∃ p : ByteArray, p = ⟨#[x, y]⟩ := ⟨_, rfl⟩
  obtain ⟨b, hb⟩ : ∃ b, b = at2B (bat s) s.size x.toNat y.toNat k := ⟨_, rfl⟩
  rw [← hpe, ← hte, ← hb] at C
  rw [← hpe, ← hte, ← hb]
  clear hte hpe hb
  go_enter Try.func14, Try.ntmps14
  go_wp2_with fail
  refine (C.out _).mono ?_; rintro e w' ⟨rfl, rfl⟩
  go_wp2_with fail
  go_ret
  exact ⟨rfl, rfl⟩

theorem hpOpen (s : ByteArray) (k : Nat) (b : Bool) (ht : s.size ≤ 1048576) (hk : k < s.size) (hb : at2B (bat s) s.size 47 42 k = b) :
    Hid (∀ w, Calls Try.prog 14 #[.string (s.extract k s.size), .string ⟨#[47, 42]⟩] w fun e w' => e = .returned (.bool b) ∧ w' = w) := by
  intro w; rw [← hb]; exact hasPrefix14 s k 47 42 w ht hk
theorem hpClose (s : ByteArray) (k : Nat) (b : Bool) (ht : s.size ≤ 1048576) (hk : k < s.size) (hb : at2B (bat s) s.size 42 47 k = b) :
    Hid (∀ w, Calls Try.prog 14 #[.string (s.extract k s.size), .string ⟨#[42, 47]⟩] w fun e w' => e = .returned (.bool b) ∧ w' = w) := by
  intro w; rw [← hb]; exact hasPrefix14 s k 42 47 w ht hk

theorem sc_out (s : ByteArray) (fu k : Nat) (d : Int) (h : ¬ k < s.size) : sc (bat s) s.size fu k d = s.size := by
  cases fu with
  | zero => rfl
  | succ fu => rw [sc, if_neg h]

set_option maxHeartbeats 1000000 in
theorem skipBlock_any (s : ByteArray) (i0 fu0 : Nat) (w : World) (hs : s.size ≤ 1048576) (hi : i0 < s.size) (hfu : s.size < i0 + fu0) :
    Calls Try.prog 13 #[.string s, .int .i64 i0] w fun e w' => e = .returned (.int .i64 (sc (bat s) s.size fu0 i0 0 : Nat)) ∧ w' = w := by
  go_enter Try.func13, Try.ntmps13
  go_wp2_with fail
  go_loop [1, 5] (fun i dp => ∃ (k fu : Nat) (d : Int), s.size < k + fu ∧ k ≤ s.size ∧ -(k : Int) ≤ d ∧ d ≤ (k : Int) ∧ i = .int .i64 k ∧ dp = .int .i64 d ∧ Hid (sc (bat s) s.size fu k d = sc (bat s) s.size fu0 i0 0)) (fun i _ => s.size - (intOf i).toNat)
  case atStart => exact ⟨i0, fu0, 0, by omega, by omega, by omega, by omega, rfl, rfl, rfl⟩
  case round =>
    obtain ⟨k, fu, d, hk1, hk2, hd1, hd2, rfl, rfl, H⟩ := hrel
    by_cases hlt : k < s.size
    · obtain ⟨fu, rfl⟩ : ∃ f, fu = f + 1 := ⟨fu - 1, by omega⟩
      have H' := H.out
      rw [sc] at H'
      rw [if_pos hlt] at H'
      clear H
      by_cases ho : at2B (bat s) s.size 47 42 k = true
      · rw [if_pos ho] at H'
        have C1 := hpOpen s k true hs hlt ho
        have b := at2B_true ho
        have b1 := b.1
        have H : Hid (sc (bat s) s.size fu (k + 2) (d + 1) = sc (bat s) s.size fu0 i0 0) := H'
        clear b ho H'
        go_wp2_with fail
        refine (C1.out _).mono ?_; rintro e w' ⟨rfl, rfl⟩
        go_wp2_with fail
        go_round
        case rel => exact ⟨k + 2, fu, d + 1, by omega, by omega, by omega, by omega, by go_num, rfl, H⟩
        case measure => simp [intOf]; omega
      · rw [if_neg ho] at H'
        have C1 := hpOpen s k false hs hlt (by simpa using ho)
        clear ho
        by_cases hc : at2B (bat s) s.size 42 47 k = true
        · rw [if_pos hc] at H'
          have C2 := hpClose s k true hs hlt hc
          have b := at2B_true hc
          have b1 := b.1
          clear b hc
          by_cases hz : d - 1 = 0
          · rw [if_pos hz] at H'
            have H : Hid (k + 2 = sc (bat s) s.size fu0 i0 0) := H'
            have hz' : (d - 1 == 0) = true := by simpa using hz
            clear H' hz
            go_wp2_with fail
            refine (C1.out _).mono ?_; rintro e w' ⟨rfl, rfl⟩
            go_wp2_with fail
            refine (C2.out _).mono ?_; rintro e w' ⟨rfl, rfl⟩
            go_wp2_with fail
            go_ret
            exact ⟨ret_int (by rw [← H.out]; omega), rfl⟩
          · rw [if_neg hz] at H'
            have H : Hid (sc (bat s) s.size fu (k + 2) (d - 1) = sc (bat s) s.size fu0 i0 0) := H'
            have hz' : (d - 1 == 0) = false := by simpa using hz
            clear H' hz
            go_wp2_with fail
            refine (C1.out _).mono ?_; rintro e w' ⟨rfl, rfl⟩
            go_wp2_with fail
            refine (C2.out _).mono ?_; rintro e w' ⟨rfl, rfl⟩
            go_wp2_with fail
            go_round
            case rel => exact ⟨k + 2, fu, d - 1, by omega, by omega, by omega, by omega, by go_num, rfl, H⟩
            case measure => simp [intOf]; omega
        · rw [if_neg hc] at H'
          have C2 := hpClose s k false hs hlt (by simpa using hc)
          have H : Hid (sc (bat s) s.size fu (k + 1) d = sc (bat s) s.size fu0 i0 0) := H'
          clear hc H'
          go_wp2_with fail
          refine (C1.out _).mono ?_; rintro e w' ⟨rfl, rfl⟩
          go_wp2_with fail
          refine (C2.out _).mono ?_; rintro e w' ⟨rfl, rfl⟩
          go_wp2_with fail
          go_round
          case rel => exact ⟨k + 1, fu, d, by omega, by omega, by omega, by omega, by go_num, rfl, H⟩
          case measure => simp [intOf]; omega
    · go_wp2_with fail
      go_ret
      exact ⟨ret_int (by rw [← H.out, sc_out s fu k d hlt]), rfl⟩

theorem zzSkipBlock_any (s : ByteArray) (i0 fu0 : Nat) (w : World) (hs : s.size ≤ 1048576) (hi : i0 < s.size) (hfu : s.size < i0 + fu0) :
    Calls Try.prog 10 #[.string s, .int .i64 i0] w fun e w' => e = .returned (.int .i64 (sc (bat s) s.size fu0 i0 0 : Nat)) ∧ w' = w := by
  go_enter Try.func10, Try.ntmps10
  go_wp2_with (go_at_call 13; refine (skipBlock_any s i0 fu0 _ hs hi hfu).mono ?_; rintro e w' ⟨rfl, rfl⟩)
  go_ret
  exact ⟨rfl, rfl⟩

/-- zzBytes: the sum of the three lengths is at most 1<<20 -/
theorem zzBytesB_any (a p o : ByteArray) (i : Int) (w : World) (ha : a.size ≤ maxLen) (hp : p.size ≤ maxLen) (ho : o.size ≤ maxLen) :
    Calls Try.prog 11 #[.string a, .int .i64 i, .string p, .string o] w fun e w' => (e = .returned (.bool true) ∧ a.size + p.size + o.size ≤ 1048576 ∨ e = .returned (.bool false)) ∧ w' = w := by
  unfold maxLen at ha hp ho
  go_enter Try.func11, Try.ntmps11
  go_wp2
  all_goals (go_ret; first | exact ⟨Or.inr rfl, rfl⟩ | exact ⟨Or.inl ⟨rfl, by omega⟩, rfl⟩)

end Go.Proofs.Qxb6618013a.Blk
