/-
  (*atomic.Uint64).Load and Store; (*sync.RWMutex).TryLock at a lock that a writer holds: contracts.
-/
import Derived.Test.YbulkakyoRecv
import Derived.Test.YbulkakyoLocks
import Derived.Conc.RwLoneW
import Derived.ProofKit
namespace Go.Proofs.Ybulkakyo
open Go.RowKit Go.RwLone

theorem load_any (b : Nat) (x : Int) (w : World) (hc : w.cell? ⟨b, 19, none⟩ = some (.int .u64 x)) :
    Calls Yba.prog 10 #[.pointer (some ⟨b, 19, none⟩)] w fun e w' => e = .returned (.int .u64 x) ∧ w' = w := by
  have hl := run_call_load (P := Yba.prog) (f := 28) Yba.func28 (by kernel_rfl) (by kernel_rfl) (by kernel_rfl) .u64 (by kernel_rfl) hc
  go_enter Yba.func10, Yba.ntmps10
  go_wp2
  go_ret
  exact ⟨rfl, rfl⟩

theorem store_any (b : Nat) (x : Int) (u : Value) (w : World) (hc : w.cell? ⟨b, 19, none⟩ = some u) (hz : w.frozen? ⟨b, 19, none⟩ = false) :
    Calls Yba.prog 5 #[.pointer (some ⟨b, 19, none⟩), .int .u64 x] w fun e w' => e = .returned (.tuple #[]) ∧ w' = w.setCell ⟨b, 19, none⟩ (.int .u64 x) := by
  have hl := run_call_store (P := Yba.prog) (f := 12) (k := .u64) (y := x) Yba.func12 (by kernel_rfl) (by kernel_rfl) (by kernel_rfl) (by kernel_rfl) hc hz
  go_enter Yba.func5, Yba.ntmps5
  go_wp2
  go_end0
  exact ⟨rfl, rfl⟩

theorem itry_held (a : Addr) (w : World) (hc : w.cell? a = some (.int .i32 1)) :
    Calls Yba.prog 33 #[.pointer (some a)] w fun e w' => e = .returned (.bool false) ∧ w' = w := by
  have hd : ∀ w, (callFunc 14 #[]).run Yba.prog w = .ok (.value (.tuple #[])) w := fun w => disable Yba.rwCore w
  have he : ∀ w, (callFunc 18 #[]).run Yba.prog w = .ok (.value (.tuple #[])) w := fun w => enable Yba.rwCore w
  have hand : ∀ w, (binOp .and 21 (.int .i32 1) (.int .i32 5)).run Yba.prog w = .ok (.int .i32 1) w := fun w => by kernel_rfl
  go_enter Yba.func33, Yba.ntmps33
  go_wp2
  go_ret
  exact ⟨rfl, rfl⟩

theorem try_held (a : Addr) (w : World) (hc : w.cell? a = some (.int .i32 1)) :
    Calls Yba.prog 21 #[.pointer (some a)] w fun e w' => e = .returned (.bool false) ∧ w' = w := by
  go_enter Yba.func21, Yba.ntmps21
  go_wp2_with (go_at_call 33; refine (itry_held _ _ (by simpa using hc)).mono ?_; rintro e w' ⟨rfl, hw⟩; rw [hw]; clear hw)
  go_ret
  exact ⟨rfl, rfl⟩

set_option maxRecDepth 100000 in
theorem trylock_held (b : Nat) (w : World) (hc : w.cell? ⟨b, 8, none⟩ = some (.int .i32 1)) :
    Calls Yba.prog 8 #[.pointer (some ⟨b, 8, none⟩)] w fun e w' => e = .returned (.bool false) ∧ w' = w := by
  have C := Yba.rwCore
  have hd : ∀ w, (callFunc 14 #[]).run Yba.prog w = .ok (.value (.tuple #[])) w := fun w => disable C w
  have he : ∀ w, (callFunc 18 #[]).run Yba.prog w = .ok (.value (.tuple #[])) w := fun w => enable C w
  have hrr : ∀ a w, (callFunc 13 #[.pointer (some a)]).run Yba.prog w = .ok (.value (.tuple #[])) w := fun a w => raceRead C a w
  have v0 := run_convert_to_unsafe (P := Yba.prog) (src := 93) (dst := 58) C.underlying_tPMutex C.underlying_tUP C.room_tMutex hc
  go_enter Yba.func8, Yba.ntmps8
  go_wp2_with (go_at_call 21; refine (try_held _ _ hc).mono ?_; rintro e w' ⟨rfl, hw⟩; rw [hw]; clear hw)
  go_ret
  exact ⟨rfl, rfl⟩
end Go.Proofs.Ybulkakyo
