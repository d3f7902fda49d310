/-
  'within': the walk.
-/
import Derived.Test.YbulkakkaFmtClaim
namespace Go.Proofs.YbulkakkaFmt
open Go.RowKit Go.Kit Go.Maps Go.Extern.Stop Go.Stop Go.Extern

theorem Ybaf.assert76 (v : Value) (w : World) : (Instr.typeAssert (.iface 76 v) 28 29 true).run Ybaf.prog w = .ok (.tuple #[.pointer Option.none, .bool false]) w := by kernel_rfl
theorem Ybaf.assert29 (v : Value) (w : World) : (Instr.typeAssert (.iface 29 v) 28 29 true).run Ybaf.prog w = .ok (.tuple #[v, .bool true]) w := by kernel_rfl
attribute [local go_sem] Ybaf.assert76

/-- A defect at one place, at block N: one step, not long; a cause; not refused. -/
def DocErr (w : World) (N : Nat) : Prop := ∃ (S M : Nat) (st : ByteArray), w.cell? ⟨N, 0, Option.none⟩ = some (.slice (some ⟨S, 0, Option.none⟩) 1 1) ∧ w.cell? ⟨N, 1, Option.none⟩ = some (.iface 76 (.pointer (some ⟨M, 0, Option.none⟩))) ∧
  w.cell? ⟨N, 2, Option.none⟩ = some (.bool false) ∧ w.cell? ⟨S, 0, Option.none⟩ = some (.string st) ∧ st.size ≤ 200 ∧ PlainErr w M

theorem within_any (st : ByteArray) (M : Nat) (w : World) (hst : st.size ≤ 200) (hM : PlainErr w M) :
    Calls Ybaf.prog 12 #[.string st, .iface 76 (.pointer (some ⟨M, 0, Option.none⟩))] w fun e w' => ∃ N, e = .returned (.iface 29 (.pointer (some ⟨N, 0, Option.none⟩))) ∧ w.heap.size ≤ N ∧ DocErr w' N ∧ Below w.heap.size w w' := by
  obtain ⟨t, ht, htl⟩ := hM
  have hlt : M < w.heap.size := World.block_lt_of_cell? w _ ht
  go_enter Ybaf.func12, Ybaf.ntmps12
  go_wp2
  go_ret
  refine ⟨w.heap.size + 1, rfl, by omega, ⟨w.heap.size, M, st, by go_simp, by go_simp, by go_simp, by go_simp, hst, t, ?_, htl⟩, ((Below.refl _ _).alloc (Nat.le_refl _) _).alloc (by simp) _⟩
  exact (((Below.refl w.heap.size w).alloc (Nat.le_refl _) _).alloc (by simp) _).cell (p := ⟨M, 0, Option.none⟩) hlt |>.trans ht
end Go.Proofs.YbulkakkaFmt
