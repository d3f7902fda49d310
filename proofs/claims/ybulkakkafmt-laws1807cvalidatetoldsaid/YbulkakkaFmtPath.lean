/-
  '(*documentError).path' and '(*documentError).Error', at a defect with one step: the walks.
-/
import Derived.Test.YbulkakkaFmtWithin
import Derived.Deep.LoopGhost
namespace Go.Proofs.YbulkakkaFmt
open Go.RowKit Go.Kit Go.Maps Go.Extern.Stop Go.Stop Go.Extern

theorem Ybaf.Builder_WriteString (B b : Nat) (bs : List Value) (s : ByteArray) (w : World) (h : Lib.IsBuilder 70 5 B b bs w) (hlen : bs.length + s.size ≤ 140737488355328) (hBw : B ≤ w.heap.size) :
    Calls Ybaf.prog 25 #[.pointer (some ⟨b, 0, Option.none⟩), .string s] w fun e w' => e = .returned (.tuple #[.int .i64 s.size, .nilIface]) ∧ (Lib.BuilderAt 70 5 B b (.pointer (some ⟨b, 0, Option.none⟩)) (bs ++ Lib.strCells s) w' ∧ Below B w w') :=
  Any.Builder_WriteString { Ybaf.lays105 with } Ybaf.Builder_Extra_105 B b bs s w h hlen hBw

theorem builder_fresh (w : World) : Lib.IsBuilder 70 5 w.heap.size w.heap.size [] (w.alloc (.cells #[.pointer Option.none, .slice Option.none 0 0] 70)) :=
  .inl ⟨Nat.le_refl _, _, heap_alloc_new w _, World.ownsRow_nil _ _ _ _, by simp [Value.ownBlock]⟩

set_option maxHeartbeats 800000 in
/-- path, at a defect with one step. -/
theorem path_any (N S : Nat) (st : ByteArray) (w : World) (h0 : w.cell? ⟨N, 0, Option.none⟩ = some (.slice (some ⟨S, 0, Option.none⟩) 1 1)) (hS : w.cell? ⟨S, 0, Option.none⟩ = some (.string st)) (hst : st.size ≤ 200) :
    Calls Ybaf.prog 52 #[.pointer (some ⟨N, 0, Option.none⟩)] w fun e w' => e = .returned (.string st) ∧ Below w.heap.size w w' := by
  have hN : N < w.heap.size := World.block_lt_of_cell? w _ h0
  have hS' : S < w.heap.size := World.block_lt_of_cell? w _ hS
  go_enter Ybaf.func52, Ybaf.ntmps52
  go_wp2
  have HB0 : Hid (Lib.IsBuilder 70 5 w.heap.size w.heap.size [] (w.alloc (.cells #[.pointer Option.none, .slice Option.none 0 0] 70))) := builder_fresh w
  have hb0 : Below w.heap.size w (w.alloc (.cells #[.pointer Option.none, .slice Option.none 0 0] 70)) := (Below.refl _ _).alloc (Nat.le_refl _) _
  go_loopg [4] 1 (fun g vi wr => Below w.heap.size w wr ∧ ((g = 1 ∧ vi = .int .i64 0 ∧ Hid (Lib.IsBuilder 70 5 w.heap.size w.heap.size [] wr)) ∨ (g = 0 ∧ vi = .int .i64 (-1) ∧ Hid (Lib.IsBuilder 70 5 w.heap.size w.heap.size (Lib.strCells st) wr))))
  case atStart => exact ⟨hb0, .inl ⟨rfl, rfl, HB0⟩⟩
  case round =>
    obtain ⟨hnx, hr⟩ := hrel
    clear HB0 hb0
    rcases hr with ⟨hg, rfl, HB⟩ | ⟨hg, rfl, HB⟩
    · have c0 : wr.cell? ⟨N, 0, Option.none⟩ = some (.slice (some ⟨S, 0, Option.none⟩) 1 1) := (hnx.cell (p := ⟨N, 0, Option.none⟩) hN).trans h0
      have cS : wr.cell? ⟨S, 0, Option.none⟩ = some (.string st) := (hnx.cell (p := ⟨S, 0, Option.none⟩) hS').trans hS
      have hsz := hnx.size
      go_wp2_with fail
      refine (Ybaf.Builder_Len w.heap.size w.heap.size [] _ HB.out).mono ?_
      rintro e w1 ⟨rfl, hw1⟩
      rw [hw1]
      clear hw1 w1
      go_wp2_with fail
      refine (Ybaf.Builder_WriteString w.heap.size w.heap.size [] ⟨#[]⟩ _ HB.out (by decide) hsz).mono ?_
      rintro e w2 ⟨rfl, hB2, hb2⟩
      have HB2 : Hid (Lib.IsBuilder 70 5 w.heap.size w.heap.size [] w2) := .inr (by simpa [Lib.strCells] using hB2)
      have hsz2 := hb2.size
      clear hB2
      go_wp2_with fail
      refine (Ybaf.Builder_WriteString w.heap.size w.heap.size [] st _ HB2.out (by simp; omega) (by omega)).mono ?_
      rintro e w3 ⟨rfl, hB3, hb3⟩
      have HB3 : Hid (Lib.IsBuilder 70 5 w.heap.size w.heap.size (Lib.strCells st) w3) := .inr (by simpa using hB3)
      have hnx3 := (hnx.trans hb2).trans hb3
      clear hB3
      go_wp2_with fail
      go_roundg 0
      case measure => omega
      case rel => exact ⟨hnx3, .inr ⟨rfl, rfl, HB3⟩⟩
    · have hsz := hnx.size
      go_wp2_with fail
      refine (Ybaf.Builder_String_any w.heap.size w.heap.size st.data.toList _ HB.out hsz).mono ?_
      rintro e w1 ⟨rfl, hb1⟩
      go_wp2
      go_ret
      exact ⟨rfl, hnx.trans hb1⟩
end Go.Proofs.YbulkakkaFmt
