/-
  What 'LawS1809CRates' keeps in memory.
-/
import Derived.Test.YbulkaklcFill
import Derived.Test.YbulkaklcMake
namespace Go.Proofs.Ybulkaklc
open Go.RowKit

/-- n floats in block b. -/
structure ERow (w : World) (b n : Nat) (E : Nat → Nat) : Prop where
  cell : ∀ j, j < n → w.cell? ⟨b, j, none⟩ = some (.float .f64 (E j))
  fz : ∀ j, w.frozen? ⟨b, j, none⟩ = false
theorem ERow.set {w : World} {b n i : Nat} {E : Nat → Nat} (h : ERow w b n E) (hi : i < n) (x : Nat) : ERow (w.setCell ⟨b, i, none⟩ (.float .f64 x)) b n (fun j => if j = i then x else E j) := by
  refine ⟨fun j hj => ?_, fun j => by rw [World.frozen?_setCell]; exact h.fz j⟩
  by_cases e : j = i
  · subst e
    simp only [if_true]
    exact World.cell?_setCell_same _ _ _ (h.cell j hj)
  · simp only [if_neg e]
    exact cell_far (h.cell j hj) (.inr (Ne.symm e))
theorem ERow.below {w w' : World} {b n B : Nat} {E : Nat → Nat} (h : ERow w b n E) (hb : Below B w w') (hB : b < B) : ERow w' b n E :=
  ⟨fun j hj => (hb.cell (p := ⟨b, j, none⟩) hB).trans (h.cell j hj), fun j => (hb.frozen (p := ⟨b, j, none⟩) hB).trans (h.fz j)⟩
theorem ERow.congr {w : World} {b n : Nat} {E E' : Nat → Nat} (h : ERow w b n E) (e : ∀ i, i < n → E i = E' i) : ERow w b n E' := ⟨fun i hi => by rw [← e i hi]; exact h.cell i hi, h.fz⟩

/-- The whole: the layers that 'fill' has set (rates R), the layers as they were, the pacer, the expected rates E. -/
structure Mem (L : Nat → Ly) (n ir tf : Nat) (w0 : World) (bl bf bp be : Nat) (R E : Nat → Nat) (w : World) : Prop where
  row : Row w bl n (lays L R)
  bef : Row w bf n (fun i => layOf (L i))
  pac : Pac w bp bl n ir tf
  exp : ERow w be n E
  below : Below w0.heap.size w0 w
  d0 : w0.heap.size ≤ bl
  d1 : bl < bf
  d2 : bf < bp
  d3 : bp < be
  d4 : be < w.heap.size
section
variable {L : Nat → Ly} {n ir tf bl bf bp be : Nat} {w0 w w' : World} {R E : Nat → Nat}
theorem Mem.next (h : Mem L n ir tf w0 bl bf bp be R E w) (hb : Below w.heap.size w w') : Mem L n ir tf w0 bl bf bp be R E w' where
  row := h.row.below hb (by have := h.d1; have := h.d2; have := h.d3; have := h.d4; omega)
  bef := h.bef.below hb (by have := h.d2; have := h.d3; have := h.d4; omega)
  pac := h.pac.below hb (by have := h.d3; have := h.d4; omega)
  exp := h.exp.below hb h.d4
  below := h.below.trans (hb.mono h.below.size)
  d0 := h.d0
  d1 := h.d1
  d2 := h.d2
  d3 := h.d3
  d4 := Nat.lt_of_lt_of_le h.d4 hb.size
theorem Mem.setE (h : Mem L n ir tf w0 bl bf bp be R E w) {i : Nat} (hi : i < n) (x : Nat) : Mem L n ir tf w0 bl bf bp be R (fun j => if j = i then x else E j) (w.setCell ⟨be, i, none⟩ (.float .f64 x)) where
  row := h.row.other (by have := h.d1; have := h.d2; have := h.d3; omega) _
  bef := h.bef.other (by have := h.d2; have := h.d3; omega) _
  pac := h.pac.set (by have := h.d3; omega) _
  exp := h.exp.set hi x
  below := h.below.setCell (by have := h.d0; have := h.d1; have := h.d2; have := h.d3; show w0.heap.size ≤ be; omega) _
  d0 := h.d0
  d1 := h.d1
  d2 := h.d2
  d3 := h.d3
  d4 := by simpa using h.d4
theorem Mem.congr (h : Mem L n ir tf w0 bl bf bp be R E w) {E' : Nat → Nat} (e : ∀ i, i < n → E i = E' i) : Mem L n ir tf w0 bl bf bp be R E' w :=
  ⟨h.row, h.bef, h.pac, h.exp.congr e, h.below, h.d0, h.d1, h.d2, h.d3, h.d4⟩
end
theorem Yba.info22 : (Yba.prog.info? 22).map (fun i => (i.zero, i.size, i.bytes)) = some (some (.float .f64 0), 1, 8) := by kernel_rfl
theorem erow_made {w : World} {base g n cap : Nat} (h : w.ownsRow base 22 1 (.slice (some ⟨g, 0, none⟩) n cap) n (madeCells #[.float .f64 0] n).toList) : ERow w g n fun _ => 0 := by
  refine ⟨fun j hj => ?_, fun j => h.frozenAt j⟩
  rw [h.cellAt j (by omega), toList_madeCells_one]
  simp [hj]
end Go.Proofs.Ybulkaklc
