/-
  The law's argument, opened: from the reading to what the walk is told.
-/
import Derived.Test.YbulkakkaFmtIn
import Derived.Deep.SlicePairs
import Derived.OpenShut
namespace Go.Proofs.YbulkakkaFmt
open Go.ChangeShapes Go.WideShapes Go.ChangeAt Go.RowKit

theorem Ybaf.cells39 : Ybaf.prog.cellsOf 39 = 2 := by kernel_rfl
theorem Ybaf.cells5 : Ybaf.prog.cellsOf 5 = 1 := by kernel_rfl
theorem Ybaf.cells37 : Ybaf.prog.cellsOf 37 = 1 := by kernel_rfl

/-- One element. -/
theorem open_ty {H : Type} {enc : TypeId × Value → H} {W : World} {n : Nat} {v0 v1 : Value} {y0 y1 : DataW H × List MemPlace}
    (h0 : DataW.trod enc Ybaf.prog W 0 (fun _ => true) true n 5 [v0] = some y0) (h1 : DataW.trod enc Ybaf.prog W 0 (fun _ => true) true n 37 [v1] = some y1) :
    ∃ t : Ty, v0 = .int .u8 t.nm ∧ v1 = .slice t.a t.len t.cap ∧ TyOk W t := by
  obtain ⟨x, e0, _, wx⟩ := DataW.trod_int Ybaf.underlying5 h0
  simp at e0
  have bx := bounds_u8 wx
  rcases open_ints Ybaf.underlying37 Ybaf.underlying5 Ybaf.cells5 h1 with ⟨hcs, _⟩ | ⟨a, l, c, zs, hcs, _, hl, hm, hz, _, hcell, hwz⟩
  · simp at hcs
    exact ⟨⟨x, Option.none, 0, 0, []⟩, e0, hcs, ⟨bx.1, bx.2, Nat.le_refl _, Nat.zero_le _, fun i hi => absurd hi (Nat.not_lt_zero i)⟩⟩
  · simp at hcs hz
    refine ⟨⟨x, some a, l, c, zs⟩, e0, hcs, ⟨bx.1, bx.2, by show l ≤ zs.length; omega, by unfold maxLen at hm; show l ≤ _; omega, fun i hi => ?_⟩⟩
    have hi' : i < l := hi
    obtain ⟨b, off, spot⟩ := a
    have hspot : spot = Option.none := by simpa [Addr.add] using World.cell?_spot (hcell 0 (by omega))
    subst hspot
    have hc := hcell i (by omega)
    rw [WideShapes.add_plain] at hc
    have hmem : zs.getD i 0 ∈ zs := by
      rw [List.getD_eq_getElem?_getD, List.getElem?_eq_getElem (show i < zs.length by omega)]
      exact List.getElem_mem _
    have bz := bounds_u8 (hwz _ hmem)
    exact ⟨b, off, rfl, World.block_lt_of_cell? W _ hc, bz.1, bz.2, hc⟩

theorem open_in {H : Type} {enc : TypeId × Value → H} {W : World} {fuel : Nat} {a0 : Option Addr} {len cap : Nat} {x : DataW H × List MemPlace}
    (h : DataW.trod enc Ybaf.prog W 0 (fun _ => true) true fuel 22 [.slice a0 len cap] = some x) : len ≤ 9223372036854775807 ∧ ∃ ts, IsIn W a0 len ts := by
  rcases Deep.open_slice_pairs Ybaf.underlying22 Ybaf.underlying39 Ybaf.cells39 rfl rfl Ybaf.cells5 Ybaf.cells37 h with ⟨hcs, _⟩ | ⟨a, l, c, m, n, V0, V1, D0, D1, P0, P1, hcs, _, hl, hm, hmm, _, hel⟩
  · simp at hcs
    obtain ⟨rfl, rfl, rfl⟩ := hcs
    exact ⟨Nat.zero_le _, [], rfl, fun k hk => absurd hk (Nat.not_lt_zero k), fun k hk => absurd hk (Nat.not_lt_zero k)⟩
  · simp at hcs hmm
    obtain ⟨rfl, rfl, rfl⟩ := hcs
    unfold maxLen at hm
    refine ⟨by omega, ?_⟩
    haveI : Inhabited Ty := ⟨⟨0, Option.none, 0, 0, []⟩⟩
    obtain ⟨f, hf⟩ := Deep.choose_lt (n := len) (p := fun i (t : Ty) => V0 i = .int .u8 t.nm ∧ V1 i = .slice t.a t.len t.cap ∧ TyOk W t) fun i hi => by
      obtain ⟨_, _, h0, h1⟩ := hel i (by omega)
      exact open_ty h0 h1
    have hat : ∀ j, j < len → tyAt ((List.range len).map f) j = f j := fun j hj => by simp [tyAt, hj]
    refine ⟨(List.range len).map f, by simp, fun k hk => ?_, fun k hk => by rw [hat k hk]; exact (hf k hk).2.2⟩
    obtain ⟨b, off, spot⟩ := a
    have hspot : spot = Option.none := by simpa [Addr.add] using World.cell?_spot (hel 0 (by omega)).1
    subst hspot
    have hc0 := (hel k (by omega)).1
    rw [WideShapes.add_plain] at hc0
    refine ⟨b, off, rfl, World.block_lt_of_cell? W _ hc0, fun j hj => ?_⟩
    obtain ⟨g0, g1, _, _⟩ := hel j (by omega)
    rw [WideShapes.add_plain] at g0 g1
    rw [hat j hj, g0, (hf j hj).1, ← (hf j hj).2.1]
    exact ⟨rfl, g1⟩
end Go.Proofs.YbulkakkaFmt
