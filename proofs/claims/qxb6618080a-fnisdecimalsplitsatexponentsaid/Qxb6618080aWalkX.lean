/-
  The walks of zzHas, zzJoin and zzBytes_FnIsDecimalSplitsAtExponent.
-/
import Derived.Test.Qxb6618080aRows
import Derived.WalkKit
import Derived.WalkSpells
import Derived.WalkLawsBesides
import Derived.Deep.OwnRows
import Derived.Test.Qxb6618080aPlainX
import Derived.Test.Qxb6618080aWalkP
namespace Go.Proofs.Qxb6618080a
open Go.RowKit
open Go.Proofs.Qxb6618080a.Plain

theorem hasB_hit {l : List Int} {j : Nat} {c : Int} (h : j < l.length) (he : l.getD j 0 = c) : hasB (l.drop j) c = true := by
  rw [drop_cons l j h, hasB, if_pos he]
theorem hasB_miss {l : List Int} {j : Nat} {c : Int} (h : j < l.length) (he : ¬ l.getD j 0 = c) : hasB (l.drop j) c = hasB (l.drop (j + 1)) c := by
  rw [drop_cons l j h, hasB, if_neg he]

set_option maxHeartbeats 1000000 in
theorem has_any (w : World) (a : Option Addr) (cap : Nat) (l : List Int) (c : Int) (hl : l.length ≤ 2097153) (T : Text w a l) :
    Calls Try.prog 11 #[.slice a l.length cap, .int .u8 c] w fun e w' => e = .returned (.bool (hasB l c)) ∧ w' = w := by
  go_enter Try.func11, Try.ntmps11
  go_wp2
  go_loop [5] (fun i => ∃ j : Nat, j ≤ l.length ∧ i = .int .i64 j ∧ Hid (hasB (l.drop j) c = hasB l c)) (fun i => l.length - (intOf i).toNat)
  case atStart => exact ⟨0, by omega, rfl, rfl⟩
  case round =>
    obtain ⟨j, hj, rfl, H⟩ := hrel
    by_cases hlt : j < l.length
    · obtain ⟨b, off, h1, h2⟩ := T j hlt
      obtain ⟨d, hd⟩ : ∃ d, d = l.getD j 0 := ⟨_, rfl⟩
      rw [← hd] at h2
      have HD : Hid (d = l.getD j 0) := hd
      clear hd
      subst h1
      go_wp2
      · go_ret
        have hx : (d == c) = true := by assumption
        exact ⟨ret_bool (by rw [← H.out]; exact (hasB_hit hlt (by rw [← HD.out]; simpa using hx)).symm), rfl⟩
      · go_round
        case rel =>
          have hx : (d == c) = false := by assumption
          exact ⟨j + 1, by omega, by go_num, (hasB_miss hlt (by rw [← HD.out]; simpa using hx)).symm.trans H.out⟩
        case measure => simp [intOf]; omega
    · go_wp2
      go_ret
      exact ⟨ret_bool (by rw [← H.out, List.drop_eq_nil_of_le (by omega)]; rfl), rfl⟩

set_option maxHeartbeats 1000000 in
theorem join_any (w : World) (c : Int) (a1 a2 : Option Addr) (cap1 cap2 : Nat) (l m : List Int) (hl : l.length ≤ 524288) (hm : m.length ≤ 524288) (T : Text w a1 l) (U : Text w a2 m) :
    Calls Try.prog 10 #[.slice a1 l.length cap1, .int .u8 c, .slice a2 m.length cap2] w fun e w' => e = .returned (.slice (some ⟨w.heap.size, 0, none⟩) (l.length + 1 + m.length) (l.length + 1 + m.length)) ∧ Text w' (some ⟨w.heap.size, 0, none⟩) (l ++ c :: m) ∧ Below w.heap.size w w' := by
  have hmk := run_make_row' (P := Try.prog) 22 5 (.int .u8 0) 1 Try.underlying22 Try.info5 rfl .i64 .i64 (l.length + 1 + m.length) (by omega) (by omega)
  rw [show ((l.length + 1 + m.length : Nat) : Int) = (l.length : Int) + 1 + (m.length : Int) from by omega] at hmk
  go_enter Try.func10, Try.ntmps10
  go_wp2
  clear hmk
  go_loopw [8] (fun i wr => ∃ j : Nat, j ≤ l.length ∧ i = .int .i64 j ∧ wr.rowIs w.heap.size 5 (l.length + 1 + m.length) (part (l ++ c :: m) j) ∧ Below w.heap.size w wr) (fun i _ => l.length - (intOf i).toNat)
  case atStart =>
    refine ⟨0, by omega, rfl, ?_, (Below.refl _ _).alloc (Nat.le_refl _) _⟩
    refine (World.rowIs_made w (.int .u8 0) (l.length + 1 + m.length) 5).congr fun i hi => ?_
    unfold part
    rw [if_neg (by omega)]
  case round =>
    obtain ⟨j, hj, rfl, R, hb⟩ := hrel
    by_cases hlt : j < l.length
    · obtain ⟨b, off, h1, h2⟩ := T j hlt
      have h3 : b < w.heap.size := World.block_lt_of_cell? _ _ h2
      have h4 := (hb.cell (p := ⟨b, off + j, none⟩) h3).trans h2
      obtain ⟨d, hd⟩ : ∃ d, d = l.getD j 0 := ⟨_, rfl⟩
      rw [← hd] at h4
      have HD : Hid (d = l.getD j 0) := hd
      have hf := R.frozen j
      obtain ⟨v, hv⟩ : ∃ v, wr.cell? ⟨w.heap.size, j, none⟩ = some v := ⟨_, R.cell (by omega)⟩
      subst h1
      clear hd h2
      go_wp2
      go_roundw
      case rel =>
        refine ⟨j + 1, by omega, by go_num, ?_, hb.setCell (by simp) _⟩
        have h := R.set j (.int .u8 d)
        have e : d = (l ++ c :: m).getD j 0 := by rw [HD.out]; simp only [List.getD_eq_getElem?_getD]; rw [List.getElem?_append_left hlt]
        rw [e] at h ⊢
        rw [part_set] at h
        exact h
      case measure => simp [intOf]; omega
    · have ej : j = l.length := by omega
      subst ej
      have hf := R.frozen l.length
      obtain ⟨v, hv⟩ : ∃ v, wr.cell? ⟨w.heap.size, l.length, none⟩ = some v := ⟨_, R.cell (by omega)⟩
      go_wp2
      have R1 := R.set l.length (.int .u8 c)
      have e1 : c = (l ++ c :: m).getD l.length 0 := by simp only [List.getD_eq_getElem?_getD]; rw [List.getElem?_append_right (Nat.le_refl _)]; simp
      have R2 : (wr.setCell ⟨w.heap.size, l.length, none⟩ (.int .u8 c)).rowIs w.heap.size 5 (l.length + 1 + m.length) (part (l ++ c :: m) (l.length + 1 + 0)) := by
        rw [← part_set, ← e1]; exact R1
      have hb2 : Below w.heap.size w (wr.setCell ⟨w.heap.size, l.length, none⟩ (.int .u8 c)) := hb.setCell (by simp) _
      have HR : Hid _ := R2
      have HB : Hid _ := hb2
      clear R1 e1 R2 hb2 R hb hf hv
      go_loopw [9] (fun i wr => ∃ j : Nat, j ≤ m.length ∧ i = .int .i64 j ∧ wr.rowIs w.heap.size 5 (l.length + 1 + m.length) (part (l ++ c :: m) (l.length + 1 + j)) ∧ Below w.heap.size w wr) (fun i _ => m.length - (intOf i).toNat)
      case atStart => exact ⟨0, by omega, rfl, HR.out, HB.out⟩
      case round =>
        clear HR HB
        obtain ⟨j, hj, rfl, R, hb⟩ := hrel
        rename_i wr2
        by_cases hlt : j < m.length
        · obtain ⟨b, off, h1, h2⟩ := U j hlt
          have h3 : b < w.heap.size := World.block_lt_of_cell? _ _ h2
          have h4 := (hb.cell (p := ⟨b, off + j, none⟩) h3).trans h2
          obtain ⟨d, hd⟩ : ∃ d, d = m.getD j 0 := ⟨_, rfl⟩
          rw [← hd] at h4
          have HD : Hid (d = m.getD j 0) := hd
          have hf := R.frozen (l.length + 1 + j)
          obtain ⟨v, hv⟩ : ∃ v, _ = some v := ⟨_, R.cell (i := l.length + 1 + j) (by omega)⟩
          subst h1
          clear hd h2
          go_wp2
          go_roundw
          case rel =>
            refine ⟨j + 1, by omega, by go_num, ?_, hb.setCell (by simp) _⟩
            have h := R.set (l.length + 1 + j) (.int .u8 d)
            have e : d = (l ++ c :: m).getD (l.length + 1 + j) 0 := by
              rw [HD.out]; simp only [List.getD_eq_getElem?_getD]; rw [List.getElem?_append_right (by omega), show l.length + 1 + j - l.length = j + 1 from by omega]; rfl
            rw [e] at h ⊢
            rw [part_set] at h
            exact h
          case measure => simp [intOf]; omega
        · go_wp2
          go_ret
          have ej : j = m.length := by omega
          subst ej
          exact ⟨rfl, text_of_row R (by simp; omega), hb⟩

theorem zzBytesX_any (a1 a2 : Option Addr) (n1 cap1 n2 cap2 : Nat) (w : World) (h1 : n1 ≤ maxLen) (h2 : n2 ≤ maxLen) :
    Calls Try.prog 9 #[.slice a1 n1 cap1, .slice a2 n2 cap2] w fun e w' => (e = .returned (.bool true) ∧ n1 + n2 ≤ 1048576 ∨ e = .returned (.bool false)) ∧ w' = w := by
  unfold maxLen at h1 h2
  go_enter Try.func9, Try.ntmps9
  go_wp2
  all_goals (go_ret; first | exact ⟨Or.inr rfl, rfl⟩ | exact ⟨Or.inl ⟨rfl, by omega⟩, rfl⟩)

end Go.Proofs.Qxb6618080a
