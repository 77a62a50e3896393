/-
  The walks of isDecimal and ZZisDecimal.
-/
import Derived.Test.Qxb6618080aRows
import Derived.WalkKit
import Derived.WalkSpells
import Derived.WalkLawsBesides
import Derived.Test.Qxb6618080aWalkC
namespace Go.Proofs.Qxb6618080a
open Go.RowKit
open Go.Proofs.Qxb6618080a.Plain

/-- the slice that begins at a holds the bytes l -/
def Text (w : World) (a : Option Addr) (l : List Int) : Prop :=
  ∀ j, j < l.length → ∃ b off, a = some ⟨b, off, none⟩ ∧ w.cell? ⟨b, off + j, none⟩ = some (.int .u8 (l.getD j 0))

theorem Text.later {w w' : World} {a : Option Addr} {l : List Int} (T : Text w a l) {B : Nat} (hb : Below B w w') (hB : w.heap.size ≤ B) : Text w' a l := by
  intro j hj
  obtain ⟨b, off, h1, h2⟩ := T j hj
  have hlt : b < w.heap.size := World.block_lt_of_cell? _ _ h2
  exact ⟨b, off, h1, (hb.cell (p := ⟨b, off + j, none⟩) (by show b < B; omega)).trans h2⟩

theorem inv_start {w : World} {a : Option Addr} {cap : Nat} {l : List Int} (T : Text w a l) :
    Inv ((w.alloc (.cells #[.slice a l.length cap] 22)).alloc (.cells #[.int .i64 0] 3)) a cap l w.heap.size (w.heap.size + 1) 0 := by
  refine ⟨?_, ?_, ?_, by omega, ?_⟩
  · simp [go_sem]
  · simp [go_sem]
  · simp [go_sem]
  · intro j hj
    obtain ⟨b, off, h1, h2⟩ := T j hj
    have hlt : b < w.heap.size := World.block_lt_of_cell? _ _ h2
    refine ⟨b, off, h1, hlt, ?_⟩
    rw [World.cell?_alloc_lt _ _ _ (by simp; omega), World.cell?_alloc_lt _ _ _ (by exact hlt)]
    exact h2

theorem sign_at (w : World) (a : Option Addr) (cap : Nat) (l : List Int) (Bt Bi k m : Nat) (I : Inv w a cap l Bt Bi k) (hl : l.length ≤ 2097153) (K : Hid (sp l k = m)) :
    Calls Try.prog 18 #[.pointer (some ⟨Bi, 0, none⟩), .pointer (some ⟨Bt, 0, none⟩)] w fun e w' => e = .returned (.tuple #[]) ∧ Inv w' a cap l Bt Bi m ∧ Below Bt w w' := by
  rw [← K.out]; exact sign_any w a cap l Bt Bi k I hl
theorem digits_at (w : World) (a : Option Addr) (cap : Nat) (l : List Int) (Bt Bi k m : Nat) (b : Bool) (I : Inv w a cap l Bt Bi k) (hl : l.length ≤ 2097153) (hk : k ≤ l.length) (K : Hid (de l k = m)) (hb : decide (k < m) = b) :
    Calls Try.prog 19 #[.pointer (some ⟨Bi, 0, none⟩), .pointer (some ⟨Bt, 0, none⟩)] w fun e w' => e = .returned (.bool b) ∧ Inv w' a cap l Bt Bi m ∧ Below Bt w w' := by
  rw [← hb, ← K.out]; exact digits_any w a cap l Bt Bi k I hl hk

theorem eqI (m n : Nat) : ((m : Int) == (n : Int)) = decide (m = n) := by
  rw [Bool.eq_iff_iff]; simp; omega

theorem dec_no {l : List Int} {k1 k2 : Nat} (K1 : Hid (sp l 0 = k1)) (K2 : Hid (de l k1 = k2)) (h : ¬ k1 < k2) : dec l = false := by
  unfold dec; rw [K1.out, K2.out, if_neg h]
theorem dec_go {l : List Int} {k1 k2 : Nat} (K1 : Hid (sp l 0 = k1)) (K2 : Hid (de l k1 = k2)) (h : k1 < k2) : dec l = match frac l k2 with | none => false | some m => fin l (expo l m) := by
  unfold dec; rw [K1.out, K2.out, if_pos h]; rfl
theorem frac_no {l : List Int} {k : Nat} (h : ¬ (k < l.length ∧ l.getD k 0 = 46)) : frac l k = some k := by
  unfold frac; rw [if_neg h]
theorem frac_bad {l : List Int} {k k4 : Nat} (h : k < l.length ∧ l.getD k 0 = 46) (K4 : Hid (de l (k + 1) = k4)) (h4 : ¬ k + 1 < k4) : frac l k = none := by
  unfold frac; rw [if_pos h, K4.out, if_neg h4]
theorem frac_yes {l : List Int} {k k4 : Nat} (h : k < l.length ∧ l.getD k 0 = 46) (K4 : Hid (de l (k + 1) = k4)) (h4 : k + 1 < k4) : frac l k = some k4 := by
  unfold frac; rw [if_pos h, K4.out, if_pos h4]
theorem expo_no {l : List Int} {k : Nat} (h : ¬ (k < l.length ∧ isE (l.getD k 0) = true)) : fin l (expo l k) = decide (k = l.length) := by
  unfold expo; rw [if_neg h]; rfl
theorem expo_bad {l : List Int} {k k5 k6 : Nat} (h : k < l.length ∧ isE (l.getD k 0) = true) (K5 : Hid (sp l (k + 1) = k5)) (K6 : Hid (de l k5 = k6)) (h6 : ¬ k5 < k6) : fin l (expo l k) = false := by
  unfold expo; rw [if_pos h, K5.out, K6.out, if_neg h6]; rfl
theorem expo_yes {l : List Int} {k k5 k6 : Nat} (h : k < l.length ∧ isE (l.getD k 0) = true) (K5 : Hid (sp l (k + 1) = k5)) (K6 : Hid (de l k5 = k6)) (h6 : k5 < k6) : fin l (expo l k) = decide (k6 = l.length) := by
  unfold expo; rw [if_pos h, K5.out, K6.out, if_pos h6]; rfl
theorem sp_bd {l : List Int} {k m : Nat} (K : Hid (sp l k = m)) (hk : k ≤ l.length) : k ≤ m ∧ m ≤ l.length := by
  rw [← K.out]; unfold sp; split <;> omega
theorem de_bd {l : List Int} {k m : Nat} (K : Hid (de l k = m)) (hk : k ≤ l.length) : k ≤ m ∧ m ≤ l.length := by
  rw [← K.out]; exact ⟨de_ge l k, de_le l k hk⟩

set_option maxHeartbeats 4000000 in
theorem isDecimal_any (w : World) (a : Option Addr) (cap : Nat) (l : List Int) (hl : l.length ≤ 2097153) (T : Text w a l) :
    Calls Try.prog 15 #[.slice a l.length cap] w fun e w' => e = .returned (.bool (dec l)) ∧ Below w.heap.size w w' := by
  have I0 := inv_start (cap := cap) T
  obtain ⟨k1, K1⟩ : ∃ k, Hid (sp l 0 = k) := ⟨_, rfl⟩
  obtain ⟨k2, K2⟩ : ∃ k, Hid (de l k1 = k) := ⟨_, rfl⟩
  have b1 := sp_bd K1 (by omega)
  have b2 := de_bd K2 b1.2
  have b11 := b1.2
  have b21 := b2.2
  clear T b1
  have hb0 : Below w.heap.size w ((w.alloc (.cells #[.slice a l.length cap] 22)).alloc (.cells #[.int .i64 0] 3)) :=
    ((Below.refl _ _).alloc (Nat.le_refl _) _).alloc (by simp) _
  go_enter Try.func15, Try.ntmps15
  go_wp2_with fail
  refine (sign_at _ a cap l w.heap.size (w.heap.size + 1) 0 k1 I0 hl K1).mono ?_
  rintro e w1 ⟨rfl, I1, hb1⟩
  have hc1 := hb0.trans hb1
  clear I0 hb0 hb1
  go_wp2_with fail
  by_cases h12 : k1 < k2
  · refine (digits_at w1 a cap l w.heap.size (w.heap.size + 1) k1 k2 true I1 hl b11 K2 (decide_eq_true h12)).mono ?_
    rintro e w2 ⟨rfl, I2, hb2⟩
    have hc2 := hc1.trans hb2
    clear hc1 hb2 I1
    have D : Hid _ := dec_go K1 K2 h12
    have ct := I2.ct
    have ci := I2.ci
    have fi := I2.fi
    by_cases hq : k2 < l.length
    · obtain ⟨b, off, h1, h2, h3⟩ := I2.tx k2 hq
      obtain ⟨c, hc⟩ : ∃ c, c = l.getD k2 0 := ⟨_, rfl⟩
      rw [← hc] at h3
      have HC : Hid (c = l.getD k2 0) := hc
      clear hc
      subst h1
      by_cases h46 : c = 46
      · subst h46
        obtain ⟨k4, K4⟩ : ∃ k, Hid (de l (k2 + 1) = k) := ⟨_, rfl⟩
        have b4 := de_bd K4 (by omega)
        have b41 := b4.2
        go_wp2_with fail
        by_cases h34 : k2 + 1 < k4
        · have D4 : Hid (dec l = fin l (expo l k4)) := by
            have hx := D.out; rw [frac_yes ⟨hq, HC.out.symm⟩ K4 h34] at hx; exact hx
          refine (digits_at _ _ cap l w.heap.size (w.heap.size + 1) (k2 + 1) k4 true (I2.store (k2 + 1) _ (by omega)) hl (by omega) K4 (decide_eq_true h34)).mono ?_
          rintro e w4 ⟨rfl, I4, hb4⟩
          have hc4 := (hc2.setCell (p := ⟨w.heap.size + 1, 0, none⟩) (by simp) _).trans hb4
          clear hc2 hb4 I2 ct ci fi h3 D
          have ct := I4.ct
          have ci := I4.ci
          have fi := I4.fi
          by_cases hq4 : k4 < l.length
          · obtain ⟨b', off', g1, g2, g3⟩ := I4.tx k4 hq4
            obtain ⟨c, hc⟩ : ∃ c, c = l.getD k4 0 := ⟨_, rfl⟩
            rw [← hc] at g3
            have HC4 : Hid (c = l.getD k4 0) := hc
            clear hc
            simp only [Option.some.injEq, Addr.mk.injEq, and_true] at g1
            obtain ⟨rfl, rfl⟩ := g1
            by_cases h101 : c = 101
            · have hE : isE (l.getD k4 0) = true := by rw [← HC4.out, h101]; rfl
              subst h101
              obtain ⟨k5, K5⟩ : ∃ k, Hid (sp l (k4 + 1) = k) := ⟨_, rfl⟩
              obtain ⟨k6, K6⟩ : ∃ k, Hid (de l k5 = k) := ⟨_, rfl⟩
              have b5 := sp_bd K5 (by omega)
              have b6 := de_bd K6 b5.2
              have b51 := b5.2
              have b61 := b6.2
              clear b5
              go_wp2_with fail
              refine (sign_at _ _ cap l w.heap.size (w.heap.size + 1) (k4 + 1) k5 (I4.store (k4 + 1) _ (by omega)) hl K5).mono ?_
              rintro e w5 ⟨rfl, I5, hb5⟩
              have hc5 := (hc4.setCell (p := ⟨w.heap.size + 1, 0, none⟩) (by simp) _).trans hb5
              clear hc4 hb5 I4 ct ci fi
              go_wp2_with fail
              by_cases h56 : k5 < k6
              · refine (digits_at w5 _ cap l w.heap.size (w.heap.size + 1) k5 k6 true I5 hl b51 K6 (decide_eq_true h56)).mono ?_
                rintro e w6 ⟨rfl, I6, hb6⟩
                have hc6 := hc5.trans hb6
                clear hc5 hb6 I5
                have ct := I6.ct
                have ci := I6.ci
                go_wp2_with fail
                go_ret
                rw [D4.out, expo_yes ⟨hq4, hE⟩ K5 K6 h56]
                exact ⟨ret_bool (eqI _ _), hc6⟩
              · refine (digits_at w5 _ cap l w.heap.size (w.heap.size + 1) k5 k6 false I5 hl b51 K6 (decide_eq_false h56)).mono ?_
                rintro e w6 ⟨rfl, I6, hb6⟩
                have hc6 := hc5.trans hb6
                go_wp2_with fail
                go_ret
                rw [D4.out, expo_bad ⟨hq4, hE⟩ K5 K6 h56]
                exact ⟨rfl, hc6⟩
            · by_cases h69 : c = 69
              · have hE : isE (l.getD k4 0) = true := by rw [← HC4.out, h69]; rfl
                subst h69
                obtain ⟨k5, K5⟩ : ∃ k, Hid (sp l (k4 + 1) = k) := ⟨_, rfl⟩
                obtain ⟨k6, K6⟩ : ∃ k, Hid (de l k5 = k) := ⟨_, rfl⟩
                have b5 := sp_bd K5 (by omega)
                have b6 := de_bd K6 b5.2
                have b51 := b5.2
                have b61 := b6.2
                clear b5
                go_wp2_with fail
                refine (sign_at _ _ cap l w.heap.size (w.heap.size + 1) (k4 + 1) k5 (I4.store (k4 + 1) _ (by omega)) hl K5).mono ?_
                rintro e w5 ⟨rfl, I5, hb5⟩
                have hc5 := (hc4.setCell (p := ⟨w.heap.size + 1, 0, none⟩) (by simp) _).trans hb5
                clear hc4 hb5 I4 ct ci fi
                go_wp2_with fail
                by_cases h56 : k5 < k6
                · refine (digits_at w5 _ cap l w.heap.size (w.heap.size + 1) k5 k6 true I5 hl b51 K6 (decide_eq_true h56)).mono ?_
                  rintro e w6 ⟨rfl, I6, hb6⟩
                  have hc6 := hc5.trans hb6
                  clear hc5 hb6 I5
                  have ct := I6.ct
                  have ci := I6.ci
                  go_wp2_with fail
                  go_ret
                  rw [D4.out, expo_yes ⟨hq4, hE⟩ K5 K6 h56]
                  exact ⟨ret_bool (eqI _ _), hc6⟩
                · refine (digits_at w5 _ cap l w.heap.size (w.heap.size + 1) k5 k6 false I5 hl b51 K6 (decide_eq_false h56)).mono ?_
                  rintro e w6 ⟨rfl, I6, hb6⟩
                  have hc6 := hc5.trans hb6
                  go_wp2_with fail
                  go_ret
                  rw [D4.out, expo_bad ⟨hq4, hE⟩ K5 K6 h56]
                  exact ⟨rfl, hc6⟩
              · have hE : ¬ isE (l.getD k4 0) = true := by rw [← HC4.out]; unfold isE; simp; omega
                have g1 : (c == 101) = false := by simpa using h101
                have g2 : (c == 69) = false := by simpa using h69
                clear h101 h69
                go_wp2_with fail
                go_ret
                rw [D4.out, expo_no (fun hx => hE hx.2)]
                exact ⟨ret_bool (eqI _ _), hc4⟩
          · go_wp2_with fail
            go_ret
            rw [D4.out, expo_no (fun hx => hq4 hx.1)]
            exact ⟨ret_bool (eqI _ _), hc4⟩
        · refine (digits_at _ _ cap l w.heap.size (w.heap.size + 1) (k2 + 1) k4 false (I2.store (k2 + 1) _ (by omega)) hl (by omega) K4 (decide_eq_false h34)).mono ?_
          rintro e w4 ⟨rfl, I4, hb4⟩
          have hc4 := (hc2.setCell (p := ⟨w.heap.size + 1, 0, none⟩) (by simp) _).trans hb4
          go_wp2_with fail
          go_ret
          have hx := D.out
          rw [frac_bad ⟨hq, HC.out.symm⟩ K4 h34] at hx
          rw [hx]
          exact ⟨rfl, hc4⟩
      · have D2 : Hid (dec l = fin l (expo l k2)) := by
          have hx := D.out; rw [frac_no (fun hy => h46 (HC.out.trans hy.2))] at hx; exact hx
        have g46 : (c == 46) = false := by simpa using h46
        clear D h46
        by_cases h101 : c = 101
        · have hE : isE (l.getD k2 0) = true := by rw [← HC.out, h101]; rfl
          subst h101
          obtain ⟨k5, K5⟩ : ∃ k, Hid (sp l (k2 + 1) = k) := ⟨_, rfl⟩
          obtain ⟨k6, K6⟩ : ∃ k, Hid (de l k5 = k) := ⟨_, rfl⟩
          have b5 := sp_bd K5 (by omega)
          have b6 := de_bd K6 b5.2
          have b51 := b5.2
          have b61 := b6.2
          clear b5
          go_wp2_with fail
          refine (sign_at _ _ cap l w.heap.size (w.heap.size + 1) (k2 + 1) k5 (I2.store (k2 + 1) _ (by omega)) hl K5).mono ?_
          rintro e w5 ⟨rfl, I5, hb5⟩
          have hc5 := (hc2.setCell (p := ⟨w.heap.size + 1, 0, none⟩) (by simp) _).trans hb5
          clear hc2 hb5 I2 ct ci fi
          go_wp2_with fail
          by_cases h56 : k5 < k6
          · refine (digits_at w5 _ cap l w.heap.size (w.heap.size + 1) k5 k6 true I5 hl b51 K6 (decide_eq_true h56)).mono ?_
            rintro e w6 ⟨rfl, I6, hb6⟩
            have hc6 := hc5.trans hb6
            clear hc5 hb6 I5
            have ct := I6.ct
            have ci := I6.ci
            go_wp2_with fail
            go_ret
            rw [D2.out, expo_yes ⟨hq, hE⟩ K5 K6 h56]
            exact ⟨ret_bool (eqI _ _), hc6⟩
          · refine (digits_at w5 _ cap l w.heap.size (w.heap.size + 1) k5 k6 false I5 hl b51 K6 (decide_eq_false h56)).mono ?_
            rintro e w6 ⟨rfl, I6, hb6⟩
            have hc6 := hc5.trans hb6
            go_wp2_with fail
            go_ret
            rw [D2.out, expo_bad ⟨hq, hE⟩ K5 K6 h56]
            exact ⟨rfl, hc6⟩
        · by_cases h69 : c = 69
          · have hE : isE (l.getD k2 0) = true := by rw [← HC.out, h69]; rfl
            subst h69
            obtain ⟨k5, K5⟩ : ∃ k, Hid (sp l (k2 + 1) = k) := ⟨_, rfl⟩
            obtain ⟨k6, K6⟩ : ∃ k, Hid (de l k5 = k) := ⟨_, rfl⟩
            have b5 := sp_bd K5 (by omega)
            have b6 := de_bd K6 b5.2
            have b51 := b5.2
            have b61 := b6.2
            clear b5
            go_wp2_with fail
            refine (sign_at _ _ cap l w.heap.size (w.heap.size + 1) (k2 + 1) k5 (I2.store (k2 + 1) _ (by omega)) hl K5).mono ?_
            rintro e w5 ⟨rfl, I5, hb5⟩
            have hc5 := (hc2.setCell (p := ⟨w.heap.size + 1, 0, none⟩) (by simp) _).trans hb5
            clear hc2 hb5 I2 ct ci fi
            go_wp2_with fail
            by_cases h56 : k5 < k6
            · refine (digits_at w5 _ cap l w.heap.size (w.heap.size + 1) k5 k6 true I5 hl b51 K6 (decide_eq_true h56)).mono ?_
              rintro e w6 ⟨rfl, I6, hb6⟩
              have hc6 := hc5.trans hb6
              clear hc5 hb6 I5
              have ct := I6.ct
              have ci := I6.ci
              go_wp2_with fail
              go_ret
              rw [D2.out, expo_yes ⟨hq, hE⟩ K5 K6 h56]
              exact ⟨ret_bool (eqI _ _), hc6⟩
            · refine (digits_at w5 _ cap l w.heap.size (w.heap.size + 1) k5 k6 false I5 hl b51 K6 (decide_eq_false h56)).mono ?_
              rintro e w6 ⟨rfl, I6, hb6⟩
              have hc6 := hc5.trans hb6
              go_wp2_with fail
              go_ret
              rw [D2.out, expo_bad ⟨hq, hE⟩ K5 K6 h56]
              exact ⟨rfl, hc6⟩
          · have hE : ¬ isE (l.getD k2 0) = true := by rw [← HC.out]; unfold isE; simp; omega
            have g1 : (c == 101) = false := by simpa using h101
            have g2 : (c == 69) = false := by simpa using h69
            clear h101 h69
            go_wp2_with fail
            go_ret
            rw [D2.out, expo_no (fun hx => hE hx.2)]
            exact ⟨ret_bool (eqI _ _), hc2⟩
    · have D2 : Hid (dec l = fin l (expo l k2)) := by
        have hx := D.out; rw [frac_no (fun hy => hq hy.1)] at hx; exact hx
      clear D
      go_wp2_with fail
      go_ret
      rw [D2.out, expo_no (fun hx => hq hx.1)]
      exact ⟨ret_bool (eqI _ _), hc2⟩
  · refine (digits_at w1 a cap l w.heap.size (w.heap.size + 1) k1 k2 false I1 hl b11 K2 (decide_eq_false h12)).mono ?_
    rintro e w2 ⟨rfl, I2, hb2⟩
    have hc2 := hc1.trans hb2
    go_wp2_with fail
    go_ret
    rw [dec_no K1 K2 h12]
    exact ⟨rfl, hc2⟩

end Go.Proofs.Qxb6618080a
