/-
  The copy that each law makes of its argument first.
-/
import Derived.Test.Qxb6618080aRows
import Derived.WalkKit
import Derived.WalkSpells
import Derived.WalkLawsBesides
import Derived.Deep.OwnRows
import Derived.Laws.CopyOwn
import Derived.OpenShut
import Derived.Test.Qxb6618080aWalkD
namespace Go.Proofs.Qxb6618080a
open Go.RowKit
open Go.Proofs.Qxb6618080a.Plain

theorem Try.size5 : (Try.prog.info? 5).map (·.size) = some 1 := by kernel_rfl

/-- what a law is told of a slice of bytes that came in, as Text -/
theorem text_of_cells {w : World} {x : Addr} {zs : List Int} (n : Nat) (hn : n ≤ zs.length) (h : ∀ i, i < zs.length → w.cell? (x.add i) = some (.int .u8 (zs.getD i 0))) : Text w (some x) (zs.take n) := by
  intro j hj
  rw [List.length_take] at hj
  obtain ⟨b, off, rfl, hc⟩ := ints_at h (by omega)
  refine ⟨b, off, rfl, ?_⟩
  rw [hc j (by omega)]
  simp only [List.getD_eq_getElem?_getD]
  rw [List.getElem?_take_of_lt (by omega)]

theorem copy_in (w : World) (x : Addr) (cap : Nat) (l : List Int) (T : Text w (some x) l) :
    ∃ W2, (Builtin.copy_ #[22, 22] 3 #[.slice (some ⟨w.heap.size, 0, none⟩) l.length l.length, .slice (some x) l.length cap]).run Try.prog (w.alloc (.cells (madeCells #[.int .u8 0] l.length) 5)) = .ok (goInt l.length) W2
      ∧ Text W2 (some ⟨w.heap.size, 0, none⟩) l ∧ Below w.heap.size w W2 := by
  have hb0 : Below w.heap.size w (w.alloc (.cells (madeCells #[.int .u8 0] l.length) 5)) := (Below.refl _ _).alloc (Nat.le_refl _) _
  have hsz : (madeCells #[Value.int .u8 0] l.length).size = l.length := size_madeCells _ _
  have hg : (w.alloc (.cells (madeCells #[.int .u8 0] l.length) 5)).heap[w.heap.size]? = some (.cells (madeCells #[.int .u8 0] l.length) 5 (0, 0)) := Deep.blk_alloc_new _ _
  have hr := run_copy_row (P := Try.prog) (w.alloc (.cells (madeCells #[.int .u8 0] l.length) 5)) 22 22 3 5 w.heap.size 0 l.length l.length x l.length cap (madeCells #[.int .u8 0] l.length) 5 (l.map (Value.int .u8)) Try.underlying22 Try.size5 hg (by simp)
    (fun j v hv => by
      rw [List.getElem?_map] at hv
      obtain ⟨z, hz, rfl⟩ := Option.map_eq_some_iff.1 hv
      obtain ⟨hj, hz⟩ := List.getElem?_eq_some_iff.1 hz
      obtain ⟨b, off, h1, h2⟩ := T j hj
      have hb := World.block_lt_of_cell? _ _ h2
      obtain rfl := Option.some.inj h1
      rw [Go.WideShapes.add_plain, World.cell?_alloc_lt _ _ _ (by exact hb)]
      rw [h2, List.getD_eq_getElem?_getD, List.getElem?_eq_getElem hj, hz]
      rfl)
    (by simp [hsz]) (fun v hv => by obtain ⟨z, _, rfl⟩ := List.mem_map.1 hv; rfl)
  rw [List.length_map] at hr
  refine ⟨_, hr, ?_, below_setRow hb0 (Nat.le_refl _) _⟩
  intro j hj
  refine ⟨_, _, rfl, ?_⟩
  have hh := setRow_heap (w.alloc (.cells (madeCells #[.int .u8 0] l.length) 5)) w.heap.size _ (List.take 0 (madeCells #[Value.int .u8 0] l.length).toList ++ List.map (Value.int .u8) l ++ List.drop (0 + l.length) (madeCells #[Value.int .u8 0] l.length).toList).toArray 5 (0, 0) hg
  simp only [World.cell?, hh]
  simp [hj, List.getElem?_append_left]

end Go.Proofs.Qxb6618080a
