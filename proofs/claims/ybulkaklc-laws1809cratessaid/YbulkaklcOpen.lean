/-
  The second law's argument, opened: from the reading to what the walk is told.
-/
import Derived.Test.YbulkaklcRates
import Derived.Deep.SlicePairs
import Derived.OpenShut
namespace Go.Proofs.Ybulkaklc
open Go.ChangeShapes Go.WideShapes Go.ChangeAt Go.RowKit

theorem Yba.cells50 : Yba.prog.cellsOf 50 = 4 := by kernel_rfl
theorem Yba.cells5 : Yba.prog.cellsOf 5 = 1 := by kernel_rfl
theorem Yba.cells2 : Yba.prog.cellsOf 2 = 1 := by kernel_rfl

/-- One element: its four cells. -/
theorem open_ly {H : Type} {enc : TypeId × Value → H} {W : World} {n : Nat} {cs : List Value} {x : DataW H × List MemPlace} (hl : cs.length = 4)
    (h : DataW.trod enc Yba.prog W 0 (fun _ => true) true n 50 cs = some x) :
    ∃ l : Ly, cs = [.int .u8 l.rate, .int .i64 l.spent, .int .u8 l.ref, .int .i64 l.rs] ∧ 0 ≤ l.rate ∧ l.rate ≤ 255 ∧ 0 ≤ l.ref ∧ l.ref ≤ 255 ∧ -9223372036854775808 ≤ l.spent ∧ l.spent ≤ 9223372036854775807 ∧ -9223372036854775808 ≤ l.rs ∧ l.rs ≤ 9223372036854775807 := by
  obtain ⟨xs, k, hk, hxy, _, hxl, hf⟩ := DataW.trod_struct Yba.underlying50 h
  match xs, hxl, cs, hl with
  | [y0, y1, y2, y3], _, [v0, v1, v2, v3], _ =>
    have g0 := hf 0 _ rfl
    have g1 := hf 1 _ rfl
    have g2 := hf 2 _ rfl
    have g3 := hf 3 _ rfl
    simp [Yba.cells5, Yba.cells2] at g0 g1 g2 g3
    obtain ⟨x0, e0, _, w0⟩ := DataW.trod_int Yba.underlying5 g0
    obtain ⟨x1, e1, _, w1⟩ := DataW.trod_int Yba.underlying2 g1
    obtain ⟨x2, e2, _, w2⟩ := DataW.trod_int Yba.underlying5 g2
    obtain ⟨x3, e3, _, w3⟩ := DataW.trod_int Yba.underlying2 g3
    simp at e0 e1 e2 e3
    subst e0 e1 e2 e3
    have b0 := bounds_u8 w0
    have b1 := bounds_i64 w1
    have b2 := bounds_u8 w2
    have b3 := bounds_i64 w3
    exact ⟨⟨x0, x1, x2, x3⟩, rfl, b0.1, b0.2, b2.1, b2.2, b1.1, b1.2, b3.1, b3.2⟩

theorem open_in {H : Type} {enc : TypeId × Value → H} {W : World} {fuel : Nat} {a0 : Option Addr} {len cap : Nat} {x : DataW H × List MemPlace}
    (h : DataW.trod enc Yba.prog W 0 (fun _ => true) true fuel 34 [.slice a0 len cap] = some x) : len ≤ 9223372036854775807 ∧ ∃ L, IsIn W a0 len L := by
  rcases Deep.open_slice Yba.underlying34 h with ⟨hcs, _⟩ | ⟨a, l, c, m, n, D, Pl, hcs, _, hl, hm, hmm, _, hel⟩
  · simp at hcs
    obtain ⟨rfl, rfl, rfl⟩ := hcs
    exact ⟨Nat.zero_le _, fun _ => ⟨0, 0, 0, 0⟩, fun k hk => absurd hk (Nat.not_lt_zero k), fun k hk => absurd hk (Nat.not_lt_zero k)⟩
  · simp at hcs hmm
    obtain ⟨rfl, rfl, rfl⟩ := hcs
    unfold maxLen at hm
    refine ⟨by omega, ?_⟩
    haveI : Inhabited Ly := ⟨⟨0, 0, 0, 0⟩⟩
    obtain ⟨f, hf⟩ := Deep.choose_lt (n := len) (p := fun i (l : Ly) => (W.cells? 0 (a.add (i * 4)) 4 = some [.int .u8 l.rate, .int .i64 l.spent, .int .u8 l.ref, .int .i64 l.rs]) ∧ 0 ≤ l.rate ∧ l.rate ≤ 255 ∧ 0 ≤ l.ref ∧ l.ref ≤ 255 ∧ -9223372036854775808 ≤ l.spent ∧ l.spent ≤ 9223372036854775807 ∧ -9223372036854775808 ≤ l.rs ∧ l.rs ≤ 9223372036854775807) fun i hi => by
      obtain ⟨cs', h1, h2⟩ := hel i (by omega)
      rw [Yba.cells50] at h1
      have hlen := (World.cells?_some h1).2.1
      obtain ⟨l, e, hb⟩ := open_ly hlen h2
      subst e
      exact ⟨l, h1, hb⟩
    have hcell : ∀ j, j < len → W.cell? (a.add (j * 4)) = some (.int .u8 (f j).rate) ∧ W.cell? (a.add (j * 4 + 1)) = some (.int .i64 (f j).spent) ∧ W.cell? (a.add (j * 4 + 2)) = some (.int .u8 (f j).ref) ∧ W.cell? (a.add (j * 4 + 3)) = some (.int .i64 (f j).rs) := fun j hj => by
      obtain ⟨_, _, hc⟩ := World.cells?_some (hf j hj).1
      have e0 := hc 0 (by omega)
      have e1 := hc 1 (by omega)
      have e2 := hc 2 (by omega)
      have e3 := hc 3 (by omega)
      rw [Deep.add_add] at e0 e1 e2 e3
      exact ⟨by simpa using e0, by simpa using e1, by simpa using e2, by simpa using e3⟩
    refine ⟨f, fun k hk => ?_, fun k hk => (hf k hk).2⟩
    obtain ⟨b, off, spot⟩ := a
    have hspot : spot = none := by simpa [Addr.add] using World.cell?_spot (hcell 0 (by omega)).1
    subst hspot
    have hc0 := (hcell k hk).1
    rw [WideShapes.add_plain] at hc0
    refine ⟨b, off, rfl, World.block_lt_of_cell? W _ hc0, fun j hj => ?_⟩
    obtain ⟨g0, g1, g2, g3⟩ := hcell j hj
    rw [WideShapes.add_plain] at g0 g1 g2 g3
    exact ⟨g0, g1, g2, g3⟩
end Go.Proofs.Ybulkaklc
