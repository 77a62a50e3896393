/-
  The walks of zzPrefix and zzBytes_FnIsDecimalSignPrefix.
-/
import Derived.Test.Qxb6618080aRows
import Derived.WalkKit
import Derived.WalkSpells
import Derived.WalkLawsBesides
import Derived.Deep.OwnRows
import Derived.Test.Qxb6618080aWalkE
namespace Go.Proofs.Qxb6618080a
open Go.RowKit
open Go.Proofs.Qxb6618080a.Plain

theorem Try.info5 : (Try.prog.info? 5).map (fun i => (i.zero, i.size, i.bytes)) = some (some (.int .u8 0), 1, 1) := by kernel_rfl

/-- the first j cells of a new row hold l's first j bytes, the rest zero -/
def part (l : List Int) (j : Nat) (i : Nat) : Value := if i < j then .int .u8 (l.getD i 0) else .int .u8 0

theorem part_set (l : List Int) (j : Nat) : (fun i => if i = j then Value.int .u8 (l.getD j 0) else part l j i) = part l (j + 1) := by
  funext i
  unfold part
  by_cases h : i = j
  · subst h; rw [if_pos rfl, if_pos (by omega)]
  · rw [if_neg h]
    by_cases h2 : i < j
    · rw [if_pos h2, if_pos (by omega)]
    · rw [if_neg h2, if_neg (by omega)]

theorem text_of_row {w : World} {B n : Nat} {l : List Int} (h : w.rowIs B 5 n (part l n)) (hn : n = l.length) : Text w (some ⟨B, 0, none⟩) l := by
  intro j hj
  refine ⟨B, 0, rfl, ?_⟩
  have e := h.cell (i := j) (by omega)
  rw [Nat.zero_add, e]
  unfold part; rw [if_pos (by omega)]

set_option maxHeartbeats 1000000 in
theorem prefix_any (w : World) (c : Int) (a : Option Addr) (cap : Nat) (l : List Int) (hl : l.length ≤ 1048576) (T : Text w a l) :
    Calls Try.prog 14 #[.int .u8 c, .slice a l.length cap] w fun e w' => e = .returned (.slice (some ⟨w.heap.size, 0, none⟩) (l.length + 1) (l.length + 1)) ∧ Text w' (some ⟨w.heap.size, 0, none⟩) (c :: l) ∧ Below w.heap.size w w' := by
  have hmk := run_make_row' (P := Try.prog) 22 5 (.int .u8 0) 1 Try.underlying22 Try.info5 rfl .i64 .i64 (l.length + 1) (by omega) (by omega)
  rw [show ((l.length + 1 : Nat) : Int) = (l.length : Int) + 1 from by omega] at hmk
  have hm0 : (madeCells #[Value.int .u8 0] (l.length + 1))[0]? = some (.int .u8 0) := by simp [madeCells]
  go_enter Try.func14, Try.ntmps14
  go_wp2
  clear hmk hm0
  go_loopw [6] (fun i wr => ∃ j : Nat, j ≤ l.length ∧ i = .int .i64 j ∧ wr.rowIs w.heap.size 5 (l.length + 1) (part (c :: l) (j + 1)) ∧ Below w.heap.size w wr) (fun i _ => l.length - (intOf i).toNat)
  case atStart =>
    refine ⟨0, by omega, rfl, ?_, (Below.refl _ _).alloc (Nat.le_refl _) _⟩
    have h := (World.rowIs_made w (.int .u8 0) (l.length + 1) 5).set 0 (.int .u8 c)
    rw [World.setCell_alloc_at _ _ _ _ _ rfl] at h
    refine h.congr fun i hi => ?_
    unfold part
    by_cases h0 : i = 0
    · subst h0; rfl
    · rw [if_neg h0, if_neg (by omega)]
  case round =>
    obtain ⟨j, hj, rfl, R, hb⟩ := hrel
    by_cases hlt : j < l.length
    · obtain ⟨b, off, h1, h2⟩ := T j hlt
      have h3 : b < w.heap.size := World.block_lt_of_cell? _ _ h2
      have h4 := (hb.cell (p := ⟨b, off + j, none⟩) h3).trans h2
      obtain ⟨d, hd⟩ : ∃ d, d = l.getD j 0 := ⟨_, rfl⟩
      rw [← hd] at h4
      have HD : Hid (d = l.getD j 0) := hd
      have hf := R.frozen (1 + j)
      obtain ⟨v, hv⟩ : ∃ v, wr.cell? ⟨w.heap.size, 1 + j, none⟩ = some v := ⟨_, R.cell (by omega)⟩
      subst h1
      clear hd h2
      go_wp2
      go_roundw
      case rel =>
        refine ⟨j + 1, by omega, by go_num, ?_, hb.setCell (by simp) _⟩
        have h := R.set (j + 1) (.int .u8 d)
        rw [show (1 + j) = j + 1 from by omega]
        have e : d = (c :: l).getD (j + 1) 0 := by rw [HD.out]; rfl
        rw [e] at h ⊢
        rw [part_set] at h
        exact h
      case measure => simp [intOf]; omega
    · go_wp2
      go_ret
      have ej : j = l.length := by omega
      subst ej
      exact ⟨rfl, text_of_row R rfl, hb⟩

theorem zzBytesP_any (a : Option Addr) (n cap : Nat) (w : World) (hn : n ≤ maxLen) :
    Calls Try.prog 13 #[.slice a n cap] w fun e w' => (e = .returned (.bool true) ∧ n ≤ 1048576 ∨ e = .returned (.bool false)) ∧ w' = w := by
  unfold maxLen at hn
  go_enter Try.func13, Try.ntmps13
  go_wp2
  all_goals (go_ret; first | exact ⟨Or.inr rfl, rfl⟩ | exact ⟨Or.inl ⟨rfl, by omega⟩, rfl⟩)

end Go.Proofs.Qxb6618080a
