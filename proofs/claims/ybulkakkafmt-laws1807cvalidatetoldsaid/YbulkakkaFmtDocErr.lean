/-
  '(*documentError).Error', at a defect with one step: the walk.
-/
import Derived.Test.YbulkakkaFmtPath
import Derived.Deep.RegionWith
namespace Go.Proofs.YbulkakkaFmt
open Go.RowKit Go.Kit Go.Maps Go.Extern.Stop Go.Stop Go.Extern

theorem Ybaf.method76 (a : Addr) (w : World) : (method 203 76 (.pointer (some a)) "Error").run Ybaf.prog w = .ok (55, .pointer (some a)) w := by kernel_rfl
attribute [local go_sem] Ybaf.method76

theorem errstr_any (M : Nat) (t : ByteArray) (w : World) (h : w.cell? ⟨M, 0, Option.none⟩ = some (.string t)) :
    Calls Ybaf.prog 55 #[.pointer (some ⟨M, 0, Option.none⟩)] w fun e w' => e = .returned (.string t) ∧ w' = w := by
  go_enter Ybaf.func55, Ybaf.ntmps55
  go_wp2
  go_ret
  exact ⟨rfl, rfl⟩

theorem doc_size (st t : ByteArray) (h1 : st.size ≤ 200) (h2 : t.size ≤ 1000) : (st ++ (⟨#[58, 32]⟩ : ByteArray) ++ t).size ≤ 2000 := by
  rw [ByteArray.size_append, ByteArray.size_append]
  have : (⟨#[58, 32]⟩ : ByteArray).size = 2 := rfl
  omega
theorem below_of_drew {w w' : World} (h : Below w.drew.heap.size w.drew w') : Below w.heap.size w w' := ⟨h.os, h.tape, h.output, h.size, h.block⟩

set_option maxHeartbeats 1600000 in
theorem docerr_any (N : Nat) (w : World) (hD : DocErr w N) :
    Calls Ybaf.prog 51 #[.pointer (some ⟨N, 0, Option.none⟩)] w fun e w' => ∃ t : ByteArray, e = .returned (.string t) ∧ t.size ≤ 2000 ∧ Below w.heap.size w w' := by
  obtain ⟨S, M, st, d0, d1, d2, dS, hst, t, dM, ht⟩ := hD
  go_enter Ybaf.func51, Ybaf.ntmps51
  go_wp2
  have hN : N < w.heap.size := World.block_lt_of_cell? w _ d0
  have hM : M < w.heap.size := World.block_lt_of_cell? w _ dM
  have hlt : st.size + 2 ≤ 9223372036854775807 := by omega
  go_region_with (first
    | (go_at_call 52; refine (path_any N S st _ (by exact d0) (by exact dS) hst).mono ?_; rintro e w5 ⟨rfl, hb5⟩; have k1 : w5.cell? ⟨N, 1, Option.none⟩ = some (.iface 76 (.pointer (some ⟨M, 0, Option.none⟩))) := (hb5.cell (p := ⟨N, 1, Option.none⟩) hN).trans d1; have kM : w5.cell? ⟨M, 0, Option.none⟩ = some (.string t) := (hb5.cell (p := ⟨M, 0, Option.none⟩) hM).trans dM)
    | (go_at_call 55; refine (errstr_any M t _ (by assumption)).mono ?_; rintro e w6 ⟨rfl, hw6⟩; rw [hw6]))
  all_goals
    go_wp2
    go_ret
    exact ⟨_, rfl, doc_size st t hst ht, below_of_drew hb5⟩
end Go.Proofs.YbulkakkaFmt
