/-
  Small laws on memory that the walks of this seat share.
-/
import Derived.Test.YbulkakkaFmtDefects
namespace Go.Proofs.YbulkakkaFmt
open Go.RowKit

/-- The first m cells of block g are there and may be written. -/
def Avail (w : World) (g m : Nat) : Prop := ∀ j, j < m → (∃ v, w.cell? ⟨g, j, Option.none⟩ = some v) ∧ w.frozen? ⟨g, j, Option.none⟩ = false
theorem avail_of_owns {w : World} {base e size g n cap : Nat} {xs : List Value} (h : w.ownsRow base e size (.slice (some ⟨g, 0, Option.none⟩) n cap) n xs) : Avail w g (n * size) := fun j hj => by
  refine ⟨?_, h.frozenAt j⟩
  rw [h.cellAt j hj]
  have := h.1
  exact ⟨xs[j]'(by omega), List.getElem?_eq_getElem (by omega)⟩
theorem Avail.setCell {w : World} {g m : Nat} (h : Avail w g m) (a : Addr) (v : Value) : Avail (w.setCell a v) g m := fun j hj => by
  obtain ⟨⟨u, hu⟩, hf⟩ := h j hj
  exact ⟨cell?_setCell_some hu, by rw [World.frozen?_setCell]; exact hf⟩
theorem Avail.below {w w' : World} {g m B : Nat} (h : Avail w g m) (hb : Below B w w') (hg : g < B) : Avail w' g m := fun j hj => by
  obtain ⟨⟨u, hu⟩, hf⟩ := h j hj
  exact ⟨⟨u, (hb.cell (p := ⟨g, j, Option.none⟩) hg).trans hu⟩, (hb.frozen (p := ⟨g, j, Option.none⟩) hg).trans hf⟩
/-- A cell of another block, or of another place in the block, reads as it did behind a store. -/
theorem cell_far {w : World} {g j g' j' : Nat} {v u : Value} (h : w.cell? ⟨g, j, Option.none⟩ = some u) (hne : g' ≠ g ∨ j' ≠ j) : (w.setCell ⟨g', j', Option.none⟩ v).cell? ⟨g, j, Option.none⟩ = some u := by
  rw [World.cell?_setCell_other, h]
  intro e
  simp only [Addr.mk.injEq] at e
  omega
theorem Avail.same {w : World} {g m j : Nat} (h : Avail w g m) (hj : j < m) (v : Value) : (w.setCell ⟨g, j, Option.none⟩ v).cell? ⟨g, j, Option.none⟩ = some v := by
  obtain ⟨⟨u, hu⟩, _⟩ := h j hj
  exact World.cell?_setCell_same _ _ _ hu
theorem Avail.lt {w : World} {g m : Nat} (h : Avail w g m) (hm : 0 < m) : g < w.heap.size := by
  obtain ⟨⟨u, hu⟩, _⟩ := h 0 hm
  exact World.block_lt_of_cell? w _ hu
theorem below_of_grown {w w' : World} (h : w.grownBy w' Option.none) : Below w.heap.size w w' := ⟨h.os, h.tape, h.output, h.size, fun k hk => h.block k hk (by simp)⟩

theorem Ybaf.info49 : (Ybaf.prog.info? 49).map (fun i => (i.zero, i.size, i.bytes)) = some (some (.agg #[.string ⟨#[]⟩, .slice Option.none 0 0]), 2, 40) := by kernel_rfl
theorem Ybaf.info46 : (Ybaf.prog.info? 46).map (fun i => (i.zero, i.size, i.bytes)) = some (some (.agg #[.string ⟨#[]⟩, .string ⟨#[]⟩]), 2, 32) := by kernel_rfl
theorem Ybaf.info9 : (Ybaf.prog.info? 9).map (fun i => (i.zero, i.size, i.bytes)) = some (some (.string ⟨#[]⟩), 1, 16) := by kernel_rfl
end Go.Proofs.YbulkakkaFmt
