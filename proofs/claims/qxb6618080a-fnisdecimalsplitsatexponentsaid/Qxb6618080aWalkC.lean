/-
  The walks of isDecimal's two closures.
-/
import Derived.Test.Qxb6618080aRows
import Derived.WalkKit
import Derived.WalkSpells
import Derived.WalkLawsBesides
import Derived.Test.Qxb6618080aPlain
namespace Go.Proofs.Qxb6618080a
open Go.RowKit
open Go.Proofs.Qxb6618080a.Plain

/-- what isDecimal's closures meet: the text's variable in block Bt, the counter's in block Bi, the text's own cells below Bt -/
structure Inv (w : World) (a : Option Addr) (cap : Nat) (l : List Int) (Bt Bi : Nat) (k : Nat) : Prop where
  ct : w.cell? ⟨Bt, 0, none⟩ = some (.slice a l.length cap)
  ci : w.cell? ⟨Bi, 0, none⟩ = some (.int .i64 (k : Int))
  fi : w.frozen? ⟨Bi, 0, none⟩ = false
  lt : Bt < Bi
  tx : ∀ j, j < l.length → ∃ b off, a = some ⟨b, off, none⟩ ∧ b < Bt ∧ w.cell? ⟨b, off + j, none⟩ = some (.int .u8 (l.getD j 0))

theorem Inv.store {w : World} {a : Option Addr} {cap : Nat} {l : List Int} {Bt Bi k : Nat} (I : Inv w a cap l Bt Bi k) (m : Nat) (v : Int) (hv : v = (m : Int)) :
    Inv (w.setCell ⟨Bi, 0, none⟩ (.int .i64 v)) a cap l Bt Bi m := by
  subst hv
  have hlt := I.lt
  refine ⟨?_, ?_, ?_, hlt, ?_⟩
  · rw [World.cell?_setCell_other _ _ _ _ (by simp)]; exact I.ct
  · exact World.cell?_setCell_same _ _ _ I.ci
  · rw [World.frozen?_setCell]; exact I.fi
  · intro j hj
    obtain ⟨b, off, h1, h2, h3⟩ := I.tx j hj
    refine ⟨b, off, h1, h2, ?_⟩
    rw [World.cell?_setCell_other _ _ _ _ (by simp)]; exact h3

theorem sp_yes {l : List Int} {k : Nat} (h : k < l.length) (hs : isS (l.getD k 0) = true) : sp l k = k + 1 := by
  unfold sp; rw [if_pos ⟨h, hs⟩]
theorem sp_no {l : List Int} {k : Nat} (hs : ¬ isS (l.getD k 0) = true) : sp l k = k := by
  unfold sp; rw [if_neg (fun hx => hs hx.2)]
theorem sp_end {l : List Int} {k : Nat} (h : ¬ k < l.length) : sp l k = k := by
  unfold sp; rw [if_neg (fun hx => h hx.1)]

set_option maxHeartbeats 1000000 in
theorem sign_any (w : World) (a : Option Addr) (cap : Nat) (l : List Int) (Bt Bi k : Nat) (I : Inv w a cap l Bt Bi k) (hl : l.length ≤ 2097153) :
    Calls Try.prog 18 #[.pointer (some ⟨Bi, 0, none⟩), .pointer (some ⟨Bt, 0, none⟩)] w fun e w' => e = .returned (.tuple #[]) ∧ Inv w' a cap l Bt Bi (sp l k) ∧ Below Bt w w' := by
  have ct := I.ct
  have ci := I.ci
  have fi := I.fi
  have lt := I.lt
  by_cases h : k < l.length
  · obtain ⟨b, off, h1, h2, h3⟩ := I.tx k h
    obtain ⟨c, hc⟩ : ∃ c, c = l.getD k 0 := ⟨_, rfl⟩
    rw [← hc] at h3
    have HC : Hid (c = l.getD k 0) := hc
    clear hc
    subst h1
    go_enter Try.func18, Try.ntmps18
    go_wp2
    · go_end0
      have hs : isS (l.getD k 0) = true := by rw [← HC.out]; unfold isS; simp; omega
      rw [sp_yes h hs]
      exact ⟨rfl, I.store (k + 1) _ (by omega), (Below.refl _ _).setCell (by simp; omega) _⟩
    · go_end0
      have hx : (c == 43) = true ∨ (c == 45) = true := by assumption
      have hs : isS (l.getD k 0) = true := by rw [← HC.out]; unfold isS; simpa using hx
      rw [sp_yes h hs]
      exact ⟨rfl, I.store (k + 1) _ (by omega), (Below.refl _ _).setCell (by simp; omega) _⟩
    · go_end0
      have hx : (c == 43) = false ∧ (c == 45) = false := by assumption
      have hs : ¬ isS (l.getD k 0) = true := by rw [← HC.out]; unfold isS; simpa using hx
      rw [sp_no hs]
      exact ⟨rfl, I, Below.refl _ _⟩
  · go_enter Try.func18, Try.ntmps18
    go_wp2
    go_end0
    rw [sp_end h]
    exact ⟨rfl, I, Below.refl _ _⟩

theorem Inv.below {w : World} {a : Option Addr} {cap : Nat} {l : List Int} {Bt Bi k : Nat} (I : Inv w a cap l Bt Bi k) : Bi < w.heap.size :=
  World.block_lt_of_cell? _ _ I.ci

theorem isD_of {c : Int} (h1 : 48 ≤ c) (h2 : c ≤ 57) : isD c = true := decide_eq_true ⟨h1, h2⟩
theorem isD_lo {c : Int} (h : c < 48) : isD c = false := decide_eq_false (by omega)
theorem isD_hi {c : Int} (h : 57 < c) : isD c = false := decide_eq_false (by omega)

theorem ret_bool {a b : Bool} (h : a = b) : Ending.returned (.bool a) = .returned (.bool b) := by rw [h]

/-- the number in the one cell of block B -/
def cnt (w : World) (B : Nat) : Nat := match w.cell? ⟨B, 0, none⟩ with | some v => (intOf v).toNat | none => 0
theorem cnt_of {w : World} {B : Nat} {j : Nat} (h : w.cell? ⟨B, 0, none⟩ = some (.int .i64 (j : Int))) : cnt w B = j := by
  unfold cnt; rw [h]; simp [intOf]

set_option maxHeartbeats 1000000 in
theorem digits_any (w : World) (a : Option Addr) (cap : Nat) (l : List Int) (Bt Bi k : Nat) (I : Inv w a cap l Bt Bi k) (hl : l.length ≤ 2097153) (hk : k ≤ l.length) :
    Calls Try.prog 19 #[.pointer (some ⟨Bi, 0, none⟩), .pointer (some ⟨Bt, 0, none⟩)] w fun e w' => e = .returned (.bool (decide (k < de l k))) ∧ Inv w' a cap l Bt Bi (de l k) ∧ Below Bt w w' := by
  have ci := I.ci
  go_enter Try.func19, Try.ntmps19
  go_wp2
  clear ci
  go_loopw [] (fun wr => ∃ j : Nat, k ≤ j ∧ j ≤ l.length ∧ Hid (de l j = de l k) ∧ Inv wr a cap l Bt Bi j ∧ Below Bt w wr) (fun wr => l.length - cnt wr Bi)
  case atStart => exact ⟨k, by omega, by omega, rfl, I, Below.refl _ _⟩
  case round =>
    obtain ⟨j, hj1, hj2, HJ, J, hb⟩ := hrel
    have ct := J.ct
    have ci := J.ci
    have fi := J.fi
    have lt := J.lt
    by_cases h : j < l.length
    · obtain ⟨b, off, h1, h2, h3⟩ := J.tx j h
      obtain ⟨c, hc⟩ : ∃ c, c = l.getD j 0 := ⟨_, rfl⟩
      rw [← hc] at h3
      have HC : Hid (c = l.getD j 0) := hc
      clear hc
      subst h1
      go_wp2
      · go_roundw
        case rel => exact ⟨j + 1, by omega, by omega, (de_step l j h (by rw [← HC.out]; exact isD_of ‹_› ‹_›)).trans HJ.out, J.store (j + 1) _ (by omega), hb.setCell (by simp; omega) _⟩
        case measure => rw [cnt_of ci, cnt_of (J.store (j + 1) _ (by omega)).ci]; omega
      · go_ret
        have e : de l k = j := by rw [← HJ.out, de_stop l j h (by rw [← HC.out]; exact isD_hi ‹_›)]
        rw [e]
        exact ⟨ret_bool (by simp), J, hb⟩
      · go_ret
        have e : de l k = j := by rw [← HJ.out, de_stop l j h (by rw [← HC.out]; exact isD_lo ‹_›)]
        rw [e]
        exact ⟨ret_bool (by simp), J, hb⟩
    · go_wp2
      go_ret
      have e : de l k = j := by rw [← HJ.out, de_end l j h]
      rw [e]
      exact ⟨ret_bool (by simp), J, hb⟩

end Go.Proofs.Qxb6618080a
