/-
  The layers in memory; 'zzs1809cbuild': its walk.
-/
import Derived.Test.YbulkaklcFloats3
import Derived.Test.YbulkaklcClosed
import Derived.OwnWalk
import Derived.Laws.OwnMore
import Derived.Below
namespace Go.Proofs.Ybulkaklc
open Go.RowKit

/-- One element of the law's input. -/
structure Ly where
  rate : Int
  spent : Int
  ref : Int
  rs : Int
/-- One layer, as memory holds it (what it won is nought throughout). -/
structure Lay where
  rate : Nat
  spent : Int
  ref : Nat
  rs : Int
/-- What the walk is told of the argument. -/
structure IsIn (w : World) (a0 : Option Addr) (n : Nat) (L : Nat → Ly) : Prop where
  cells : ∀ k, k < n → ∃ b off, a0 = some ⟨b, off, none⟩ ∧ b < w.heap.size ∧ ∀ j, j < n → w.cell? ⟨b, off + j * 4, none⟩ = some (.int .u8 (L j).rate) ∧ w.cell? ⟨b, off + j * 4 + 1, none⟩ = some (.int .i64 (L j).spent) ∧
    w.cell? ⟨b, off + j * 4 + 2, none⟩ = some (.int .u8 (L j).ref) ∧ w.cell? ⟨b, off + j * 4 + 3, none⟩ = some (.int .i64 (L j).rs)
  rng : ∀ j, j < n → 0 ≤ (L j).rate ∧ (L j).rate ≤ 255 ∧ 0 ≤ (L j).ref ∧ (L j).ref ≤ 255 ∧ -9223372036854775808 ≤ (L j).spent ∧ (L j).spent ≤ 9223372036854775807 ∧ -9223372036854775808 ≤ (L j).rs ∧ (L j).rs ≤ 9223372036854775807
/-- The layer that the law makes of it. -/
def layOf (l : Ly) : Lay := ⟨over255 l.rate, l.spent, if l.rs = 0 then 0 else over256 (1 + l.ref), l.rs⟩
def noLay : Lay := ⟨0, 0, 0, 0⟩

/-- n layers in block b. -/
structure Row (w : World) (b n : Nat) (G : Nat → Lay) : Prop where
  lay : ∀ i, i < n → LayerAt w b (i * 6) (G i).rate (G i).spent (G i).ref (G i).rs 0 0
  fz : ∀ j, w.frozen? ⟨b, j, none⟩ = false
def upd (G : Nat → Lay) (i : Nat) (l : Lay) : Nat → Lay := fun j => if j = i then l else G j
theorem upd_same (G : Nat → Lay) (i : Nat) (l : Lay) : upd G i l i = l := by simp [upd]
theorem upd_other (G : Nat → Lay) {i j : Nat} (l : Lay) (h : j ≠ i) : upd G i l j = G j := by simp [upd, h]

theorem cell_far {w : World} {g j g' j' : Nat} {v u : Value} (h : w.cell? ⟨g, j, none⟩ = some u) (hne : g' ≠ g ∨ j' ≠ j) : (w.setCell ⟨g', j', none⟩ v).cell? ⟨g, j, none⟩ = some u := by
  rw [World.cell?_setCell_other, h]
  intro e
  simp only [Addr.mk.injEq] at e
  omega
theorem LayerAt.far {w : World} {b off rate ref : Nat} {spent rs won : Int} {pctr : Nat} (h : LayerAt w b off rate spent ref rs won pctr) {b' j' : Nat} {v : Value} (hne : b' ≠ b ∨ j' < off ∨ off + 5 < j') : LayerAt (w.setCell ⟨b', j', none⟩ v) b off rate spent ref rs won pctr := by
  obtain ⟨h0, h1, h2, h3, h4, h5⟩ := h
  exact ⟨cell_far h0 (by omega), cell_far h1 (by omega), cell_far h2 (by omega), cell_far h3 (by omega), cell_far h4 (by omega), cell_far h5 (by omega)⟩
theorem LayerAt.below {w w' : World} {b off rate ref : Nat} {spent rs won : Int} {pctr : Nat} {B : Nat} (h : LayerAt w b off rate spent ref rs won pctr) (hb : Below B w w') (hB : b < B) : LayerAt w' b off rate spent ref rs won pctr := by
  obtain ⟨h0, h1, h2, h3, h4, h5⟩ := h
  exact ⟨(hb.cell (p := ⟨b, off, none⟩) hB).trans h0, (hb.cell (p := ⟨b, off + 1, none⟩) hB).trans h1, (hb.cell (p := ⟨b, off + 2, none⟩) hB).trans h2, (hb.cell (p := ⟨b, off + 3, none⟩) hB).trans h3, (hb.cell (p := ⟨b, off + 4, none⟩) hB).trans h4, (hb.cell (p := ⟨b, off + 5, none⟩) hB).trans h5⟩
theorem Row.below {w w' : World} {b n B : Nat} {G : Nat → Lay} (h : Row w b n G) (hb : Below B w w') (hB : b < B) : Row w' b n G :=
  ⟨fun i hi => (h.lay i hi).below hb hB, fun j => (hb.frozen (p := ⟨b, j, none⟩) hB).trans (h.fz j)⟩
theorem Row.other {w : World} {b n : Nat} {G : Nat → Lay} (h : Row w b n G) {b' j : Nat} (hne : b' ≠ b) (v : Value) : Row (w.setCell ⟨b', j, none⟩ v) b n G :=
  ⟨fun i hi => (h.lay i hi).far (.inl hne), fun j => by rw [World.frozen?_setCell]; exact h.fz j⟩
theorem Row.drew {w : World} {b n : Nat} {G : Nat → Lay} (h : Row w b n G) : Row w.drew b n G := ⟨h.lay, h.fz⟩
theorem Row.congr {w : World} {b n : Nat} {G G' : Nat → Lay} (h : Row w b n G) (e : ∀ i, i < n → G i = G' i) : Row w b n G' :=
  ⟨fun i hi => by rw [← e i hi]; exact h.lay i hi, h.fz⟩
theorem Row.setRate {w : World} {b n i : Nat} {G : Nat → Lay} (h : Row w b n G) (hi : i < n) (x : Nat) : Row (w.setCell ⟨b, i * 6, none⟩ (.float .f64 x)) b n (upd G i { G i with rate := x }) := by
  refine ⟨fun j hj => ?_, fun j => by rw [World.frozen?_setCell]; exact h.fz j⟩
  by_cases e : j = i
  · subst e
    rw [upd_same]
    obtain ⟨h0, h1, h2, h3, h4, h5⟩ := h.lay j hj
    exact ⟨World.cell?_setCell_same _ _ _ h0, cell_far h1 (.inr (by omega)), cell_far h2 (.inr (by omega)), cell_far h3 (.inr (by omega)), cell_far h4 (.inr (by omega)), cell_far h5 (.inr (by omega))⟩
  · rw [upd_other G _ e]
    exact (h.lay j hj).far (.inr (by omega))
theorem Row.setSpent {w : World} {b n i : Nat} {G : Nat → Lay} (h : Row w b n G) (hi : i < n) (x : Int) : Row (w.setCell ⟨b, i * 6 + 1, none⟩ (.int .i64 x)) b n (upd G i { G i with spent := x }) := by
  refine ⟨fun j hj => ?_, fun j => by rw [World.frozen?_setCell]; exact h.fz j⟩
  by_cases e : j = i
  · subst e
    rw [upd_same]
    obtain ⟨h0, h1, h2, h3, h4, h5⟩ := h.lay j hj
    exact ⟨cell_far h0 (.inr (by omega)), World.cell?_setCell_same _ _ _ h1, cell_far h2 (.inr (by omega)), cell_far h3 (.inr (by omega)), cell_far h4 (.inr (by omega)), cell_far h5 (.inr (by omega))⟩
  · rw [upd_other G _ e]
    exact (h.lay j hj).far (.inr (by omega))
theorem Row.setRef {w : World} {b n i : Nat} {G : Nat → Lay} (h : Row w b n G) (hi : i < n) (x : Nat) : Row (w.setCell ⟨b, i * 6 + 2, none⟩ (.float .f64 x)) b n (upd G i { G i with ref := x }) := by
  refine ⟨fun j hj => ?_, fun j => by rw [World.frozen?_setCell]; exact h.fz j⟩
  by_cases e : j = i
  · subst e
    rw [upd_same]
    obtain ⟨h0, h1, h2, h3, h4, h5⟩ := h.lay j hj
    exact ⟨cell_far h0 (.inr (by omega)), cell_far h1 (.inr (by omega)), World.cell?_setCell_same _ _ _ h2, cell_far h3 (.inr (by omega)), cell_far h4 (.inr (by omega)), cell_far h5 (.inr (by omega))⟩
  · rw [upd_other G _ e]
    exact (h.lay j hj).far (.inr (by omega))
theorem Row.setRs {w : World} {b n i : Nat} {G : Nat → Lay} (h : Row w b n G) (hi : i < n) (x : Int) : Row (w.setCell ⟨b, i * 6 + 3, none⟩ (.int .i64 x)) b n (upd G i { G i with rs := x }) := by
  refine ⟨fun j hj => ?_, fun j => by rw [World.frozen?_setCell]; exact h.fz j⟩
  by_cases e : j = i
  · subst e
    rw [upd_same]
    obtain ⟨h0, h1, h2, h3, h4, h5⟩ := h.lay j hj
    exact ⟨cell_far h0 (.inr (by omega)), cell_far h1 (.inr (by omega)), cell_far h2 (.inr (by omega)), World.cell?_setCell_same _ _ _ h3, cell_far h4 (.inr (by omega)), cell_far h5 (.inr (by omega))⟩
  · rw [upd_other G _ e]
    exact (h.lay j hj).far (.inr (by omega))

theorem run_store_float (P : Program) (w : World) (a : Addr) (m : Mode) (k : FloatKind) (b : Nat) : (store a (.float k b) m).run P w = stored P w a (.float k b) m := run_store P w a _ m rfl
theorem Yba.info26 : (Yba.prog.info? 26).map (fun i => (i.zero, i.size, i.bytes)) = some (some (.agg #[.float .f64 0, .int .i64 0, .float .f64 0, .int .i64 0, .int .i64 0, .float .f64 0]), 6, 48) := by kernel_rfl
theorem made_at (n i o : Nat) (hi : i < n) (ho : o < 6) : (madeCells (Value.agg #[.float .f64 0, .int .i64 0, .float .f64 0, .int .i64 0, .int .i64 0, .float .f64 0]).cells (n * 6)).toList[i * 6 + o]? = #[Value.float .f64 0, .int .i64 0, .float .f64 0, .int .i64 0, .int .i64 0, .float .f64 0][o]? := by
  have h1 : i * 6 + o < n * 6 := by omega
  have h2 : (i * 6 + o) % 6 = o := by omega
  simp only [madeCells, Value.cells, Array.toList_map, Array.toList_range, List.getElem?_map, List.getElem?_range h1, Option.map_some]
  have h3 : (#[Value.float .f64 0, .int .i64 0, .float .f64 0, .int .i64 0, .int .i64 0, .float .f64 0] : Array Value).size = 6 := rfl
  rw [h3, h2]
  have : o = 0 ∨ o = 1 ∨ o = 2 ∨ o = 3 ∨ o = 4 ∨ o = 5 := by omega
  rcases this with rfl | rfl | rfl | rfl | rfl | rfl <;> rfl
theorem row_made {w : World} {base g n cap : Nat} (h : w.ownsRow base 26 6 (.slice (some ⟨g, 0, none⟩) n cap) n (madeCells (Value.agg #[.float .f64 0, .int .i64 0, .float .f64 0, .int .i64 0, .int .i64 0, .float .f64 0]).cells (n * 6)).toList) : Row w g n fun _ => noLay := by
  refine ⟨fun i hi => ?_, fun j => h.frozenAt j⟩
  have key : ∀ o, o < 6 → w.cell? ⟨g, i * 6 + o, none⟩ = #[Value.float .f64 0, .int .i64 0, .float .f64 0, .int .i64 0, .int .i64 0, .float .f64 0][o]? := fun o ho => by rw [h.cellAt _ (by omega), made_at n i o hi ho]
  exact ⟨key 0 (by omega), key 1 (by omega), key 2 (by omega), key 3 (by omega), key 4 (by omega), key 5 (by omega)⟩
theorem below_of_grown {w w' : World} (h : w.grownBy w' none) : Below w.heap.size w w' := ⟨h.os, h.tape, h.output, h.size, fun k hk => h.block k hk (by simp)⟩
end Go.Proofs.Ybulkaklc
