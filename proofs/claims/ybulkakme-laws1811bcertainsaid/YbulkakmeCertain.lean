/-
  'value', 'zzs1811bholds': the walks.
-/
import Derived.Test.YbulkakmeRows
import Derived.WalkKit
import Derived.ProofKit
import Derived.BigQuiet
namespace Go.Proofs.Ybulkakme
open Go.RowKit

def holdsB (op n k : Int) : Bool := if op = 2 then k == n else if op = 3 then decide (0 < k) else if op = 4 then k == 0 else k == 1
def IsOp (op : Int) : Prop := op = 2 ∨ op = 3 ∨ op = 4 ∨ op = 5
theorem ret_bool {a b : Bool} (h : a = b) : Ending.returned (.bool a) = .returned (.bool b) := by rw [h]

theorem holds_any (op n k : Int) (w : World) (h : IsOp op) : Calls Yba.prog 6 #[.int .u8 op, .int .i64 n, .int .i64 k] w fun e w' => e = .returned (.bool (holdsB op n k)) ∧ w' = w := by
  rcases h with rfl | rfl | rfl | rfl <;>
  · go_enter Yba.func6, Yba.ntmps6
    go_wp2
    go_ret
    exact ⟨ret_bool (by simp [holdsB]), rfl⟩

def vOf (op t f : Int) : Bool := if op = 2 then f == 0 else if op = 3 then decide (0 < t) else if op = 4 then decide (0 < f) else t == 1
def knownOf (op n t f : Int) : Bool := if op = 2 then decide (0 < f) || t == n else if op = 3 then decide (0 < t) || f == n else if op = 4 then t + f == n else decide (1 < t) || t + f == n

theorem ret_two {a b c d : Bool} (h : a = b) (h' : c = d) : Ending.returned (.tuple #[.bool a, .bool c]) = .returned (.tuple #[.bool b, .bool d]) := by rw [h, h']

theorem value_2 (b : Nat) (n t f : Int) (w : World) (h0 : w.cell? ⟨b, 0, none⟩ = some (.int .u8 2)) (h1 : w.cell? ⟨b, 1, none⟩ = some (.int .i64 n)) :
    Calls Yba.prog 5 #[.pointer (some ⟨b, 0, none⟩), .agg #[.int .i64 t, .int .i64 f]] w fun e w' => e = .returned (.tuple #[.bool (vOf 2 t f), .bool (knownOf 2 n t f)]) ∧ ∀ W, Grown W w → Grown W w' := by
  have hb := World.block_lt_of_cell? w _ h0
  by_cases hf : 0 < f
  · go_enter Yba.func5, Yba.ntmps5
    go_wp2_with fail
    have hd : decide (0 < f) = true := by simpa using hf
    go_quiet (fail)
    go_wp2
    go_ret2
    exact ⟨ret_two (by simp only [vOf]; (try rw [hd]); rfl) (by simp only [knownOf]; rw [hd]; rfl), fun W hW => by repeat (first | exact hW | apply Grown.drew | apply Grown.alloc)⟩
  · go_enter Yba.func5, Yba.ntmps5
    go_wp2_with fail
    have hd : decide (0 < f) = false := by simpa using hf
    go_quiet (fail)
    go_wp2
    go_ret2
    exact ⟨ret_two (by simp only [vOf]; (try rw [hd]); rfl) (by simp only [knownOf]; rw [hd]; rfl), fun W hW => by repeat (first | exact hW | apply Grown.drew | apply Grown.alloc)⟩
theorem value_3 (b : Nat) (n t f : Int) (w : World) (h0 : w.cell? ⟨b, 0, none⟩ = some (.int .u8 3)) (h1 : w.cell? ⟨b, 1, none⟩ = some (.int .i64 n)) :
    Calls Yba.prog 5 #[.pointer (some ⟨b, 0, none⟩), .agg #[.int .i64 t, .int .i64 f]] w fun e w' => e = .returned (.tuple #[.bool (vOf 3 t f), .bool (knownOf 3 n t f)]) ∧ ∀ W, Grown W w → Grown W w' := by
  have hb := World.block_lt_of_cell? w _ h0
  by_cases hf : 0 < t
  · go_enter Yba.func5, Yba.ntmps5
    go_wp2_with fail
    have hd : decide (0 < t) = true := by simpa using hf
    go_quiet (fail)
    go_wp2
    go_ret2
    exact ⟨ret_two (by simp only [vOf]; (try rw [hd]); rfl) (by simp only [knownOf]; rw [hd]; rfl), fun W hW => by repeat (first | exact hW | apply Grown.drew | apply Grown.alloc)⟩
  · go_enter Yba.func5, Yba.ntmps5
    go_wp2_with fail
    have hd : decide (0 < t) = false := by simpa using hf
    go_quiet (fail)
    go_wp2
    go_ret2
    exact ⟨ret_two (by simp only [vOf]; (try rw [hd]); rfl) (by simp only [knownOf]; rw [hd]; rfl), fun W hW => by repeat (first | exact hW | apply Grown.drew | apply Grown.alloc)⟩
theorem value_4 (b : Nat) (n t f : Int) (w : World) (h0 : w.cell? ⟨b, 0, none⟩ = some (.int .u8 4)) (h1 : w.cell? ⟨b, 1, none⟩ = some (.int .i64 n)) (hs : 0 ≤ t + f) (hs' : t + f ≤ 300) :
    Calls Yba.prog 5 #[.pointer (some ⟨b, 0, none⟩), .agg #[.int .i64 t, .int .i64 f]] w fun e w' => e = .returned (.tuple #[.bool (vOf 4 t f), .bool (knownOf 4 n t f)]) ∧ ∀ W, Grown W w → Grown W w' := by
  have hb := World.block_lt_of_cell? w _ h0
  · go_enter Yba.func5, Yba.ntmps5
    go_wp2_with fail
    go_quiet (fail)
    go_wp2
    go_ret2
    exact ⟨ret_two (by simp [vOf]) (by simp [knownOf]), fun W hW => by repeat (first | exact hW | apply Grown.drew | apply Grown.alloc)⟩
theorem value_5 (b : Nat) (n t f : Int) (w : World) (h0 : w.cell? ⟨b, 0, none⟩ = some (.int .u8 5)) (h1 : w.cell? ⟨b, 1, none⟩ = some (.int .i64 n)) (hs : 0 ≤ t + f) (hs' : t + f ≤ 300) :
    Calls Yba.prog 5 #[.pointer (some ⟨b, 0, none⟩), .agg #[.int .i64 t, .int .i64 f]] w fun e w' => e = .returned (.tuple #[.bool (vOf 5 t f), .bool (knownOf 5 n t f)]) ∧ ∀ W, Grown W w → Grown W w' := by
  have hb := World.block_lt_of_cell? w _ h0
  by_cases hf : 1 < t
  · go_enter Yba.func5, Yba.ntmps5
    go_wp2_with fail
    have hd : decide (1 < t) = true := by simpa using hf
    go_quiet (fail)
    go_wp2
    go_ret2
    exact ⟨ret_two (by simp only [vOf]; (try rw [hd]); rfl) (by simp only [knownOf]; rw [hd]; rfl), fun W hW => by repeat (first | exact hW | apply Grown.drew | apply Grown.alloc)⟩
  · go_enter Yba.func5, Yba.ntmps5
    go_wp2_with fail
    have hd : decide (1 < t) = false := by simpa using hf
    go_quiet (fail)
    go_wp2
    go_ret2
    exact ⟨ret_two (by simp only [vOf]; (try rw [hd]); rfl) (by simp only [knownOf]; rw [hd]; rfl), fun W hW => by repeat (first | exact hW | apply Grown.drew | apply Grown.alloc)⟩

theorem value_any (op : Int) (b : Nat) (n t f : Int) (w : World) (hop : IsOp op) (h0 : w.cell? ⟨b, 0, none⟩ = some (.int .u8 op)) (h1 : w.cell? ⟨b, 1, none⟩ = some (.int .i64 n)) (hs : 0 ≤ t + f) (hs' : t + f ≤ 300) :
    Calls Yba.prog 5 #[.pointer (some ⟨b, 0, none⟩), .agg #[.int .i64 t, .int .i64 f]] w fun e w' => e = .returned (.tuple #[.bool (vOf op t f), .bool (knownOf op n t f)]) ∧ ∀ W, Grown W w → Grown W w' := by
  rcases hop with rfl | rfl | rfl | rfl
  · exact value_2 b n t f w h0 h1
  · exact value_3 b n t f w h0 h1
  · exact value_4 b n t f w h0 h1 hs hs'
  · exact value_5 b n t f w h0 h1 hs hs'
end Go.Proofs.Ybulkakme
