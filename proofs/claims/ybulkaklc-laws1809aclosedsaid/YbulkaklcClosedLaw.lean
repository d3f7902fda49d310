/-
  'closedSpend' and 'LawS1809AClosed': the walks.
-/
import Derived.Test.YbulkaklcClosed
namespace Go.Proofs.Ybulkaklc
open Go.RowKit

theorem closed_spent (b : Nat) (rate : Nat) (spent : Int) (ref : Nat) (rs won : Int) (pctr : Nat) (w : World) (hL : LayerAt w b 0 rate spent ref rs won pctr) (h : 0 < spent) :
    Calls Yba.prog 6 #[.pointer (some ⟨b, 0, none⟩)] w fun e w' => e = .returned (.tuple #[.float .f64 (money spent), .bool true]) ∧ w' = w := by
  obtain ⟨h0, h1, h2, h3, h4, h5⟩ := hL
  simp only [Nat.zero_add] at h1 h2 h3 h4 h5
  go_enter Yba.func6, Yba.ntmps6
  go_wp2_with (go_at_call 9; refine (float64_any _ _).mono ?_; rintro e w5 ⟨rfl, hw5⟩; rw [hw5]; clear hw5)
  go_ret2
  exact ⟨rfl, rfl⟩
theorem closed_ref (b : Nat) (rate : Nat) (spent : Int) (ref : Nat) (rs won : Int) (pctr : Nat) (w : World) (hL : LayerAt w b 0 rate spent ref rs won pctr) (h : ¬ 0 < spent) (hr : 0 < rs) :
    Calls Yba.prog 6 #[.pointer (some ⟨b, 0, none⟩)] w fun e w' => ∃ c, e = .returned (.tuple #[.float .f64 c, .bool true]) ∧ Exp rs rate ref c ∧ Below w.heap.size w w' := by
  have HL : Hid (LayerAt w b 0 rate spent ref rs won pctr) := hL
  obtain ⟨h0, h1, h2, h3, h4, h5⟩ := hL
  simp only [Nat.zero_add] at h1 h2 h3 h4 h5
  go_enter Yba.func6, Yba.ntmps6
  go_wp2_with (go_at_call 12; refine (expected_any b rate spent ref rs won pctr _ HL.out hr).mono ?_; rintro e w5 ⟨c, rfl, hE, hb⟩)
  go_ret2
  exact ⟨c, rfl, hE, hb⟩
theorem closed_none (b : Nat) (rate : Nat) (spent : Int) (ref : Nat) (rs won : Int) (pctr : Nat) (w : World) (hL : LayerAt w b 0 rate spent ref rs won pctr) (h : ¬ 0 < spent) (hr : ¬ 0 < rs) :
    Calls Yba.prog 6 #[.pointer (some ⟨b, 0, none⟩)] w fun e w' => e = .returned (.tuple #[.float .f64 0, .bool false]) ∧ w' = w := by
  obtain ⟨h0, h1, h2, h3, h4, h5⟩ := hL
  simp only [Nat.zero_add] at h1 h2 h3 h4 h5
  go_enter Yba.func6, Yba.ntmps6
  go_wp2
  go_ret2
  exact ⟨rfl, rfl⟩

theorem bits_zero (w : World) : (callFunc 8 #[.float .f64 0]).run Yba.prog w = .ok (.value (.int .u64 0)) w := by kernel_rfl
theorem feq_refl (a : Nat) : feqB a a = true := feq_same (.inl rfl)

set_option maxHeartbeats 1600000 in
theorem law_none (spent rs : Int) (rate ref : Nat) (won : Int) (pctr : Nat) (w : World) (h : ¬ 0 < spent) (hr : ¬ 0 < rs) :
    Calls Yba.prog 3 #[.int .i64 spent, .int .i64 rs, .float .f64 rate, .float .f64 ref, .int .i64 won, .float .f64 pctr] w fun e w' => e = .returned (.bool true) ∧ Below w.heap.size w w' := by
  have hL : Hid (LayerAt (w.alloc (.cells #[.float .f64 rate, .int .i64 spent, .float .f64 ref, .int .i64 rs, .int .i64 won, .float .f64 pctr] 26)) w.heap.size 0 rate spent ref rs won pctr) := by
    refine ⟨?_, ?_, ?_, ?_, ?_, ?_⟩ <;> simp
  have hbz := bits_zero
  have f0 := feq_refl 0
  have f1 := feq_refl rate
  have f2 := feq_refl ref
  have f3 := feq_refl pctr
  go_enter Yba.func3, Yba.ntmps3
  go_wp2_with (first
    | (go_at_call 6; refine (closed_none _ rate spent ref rs won pctr _ hL.out h hr).mono ?_; rintro e w5 ⟨rfl, hw5⟩; rw [hw5]; clear hw5)
    | (go_at_call 7; refine (feq_any _ _ _).mono ?_; rintro e w5 ⟨rfl, hw5⟩; rw [hw5]; clear hw5))
  go_ret
  exact ⟨rfl, (Below.refl _ _).alloc (Nat.le_refl _) _⟩

set_option maxHeartbeats 1600000 in
theorem law_spent (spent rs : Int) (rate ref : Nat) (won : Int) (pctr : Nat) (w : World) (h : 0 < spent) :
    Calls Yba.prog 3 #[.int .i64 spent, .int .i64 rs, .float .f64 rate, .float .f64 ref, .int .i64 won, .float .f64 pctr] w fun e w' => e = .returned (.bool true) ∧ Below w.heap.size w w' := by
  have hL : Hid (LayerAt (w.alloc (.cells #[.float .f64 rate, .int .i64 spent, .float .f64 ref, .int .i64 rs, .int .i64 won, .float .f64 pctr] 26)) w.heap.size 0 rate spent ref rs won pctr) := by
    refine ⟨?_, ?_, ?_, ?_, ?_, ?_⟩ <;> simp
  have hq : ∀ w : World, (binOp .quo 22 (.float .f64 (floatOfInt .f64 spent)) (.float .f64 4741671816366391296)).run Yba.prog w = .ok (.float .f64 (money spent)) w := fun w => run_float_arith w .quo 22 .f64 _ _ _ (money_eq spent)
  have f0 := feq_refl (money spent)
  have f1 := feq_refl rate
  have f2 := feq_refl ref
  have f3 := feq_refl pctr
  go_enter Yba.func3, Yba.ntmps3
  go_wp2_with (first
    | (go_at_call 6; refine (closed_spent _ rate spent ref rs won pctr _ hL.out h).mono ?_; rintro e w5 ⟨rfl, hw5⟩; rw [hw5]; clear hw5)
    | (go_at_call 7; refine (feq_any _ _ _).mono ?_; rintro e w5 ⟨rfl, hw5⟩; rw [hw5]; clear hw5))
  go_ret
  exact ⟨rfl, (Below.refl _ _).alloc (Nat.le_refl _) _⟩

set_option maxHeartbeats 1600000 in
theorem law_ref (spent rs : Int) (rate ref : Nat) (won : Int) (pctr : Nat) (w : World) (h : ¬ 0 < spent) (hr : 0 < rs) :
    Calls Yba.prog 3 #[.int .i64 spent, .int .i64 rs, .float .f64 rate, .float .f64 ref, .int .i64 won, .float .f64 pctr] w fun e w' => e = .returned (.bool true) ∧ Below w.heap.size w w' := by
  have hL : Hid (LayerAt (w.alloc (.cells #[.float .f64 rate, .int .i64 spent, .float .f64 ref, .int .i64 rs, .int .i64 won, .float .f64 pctr] 26)) w.heap.size 0 rate spent ref rs won pctr) := by
    refine ⟨?_, ?_, ?_, ?_, ?_, ?_⟩ <;> simp
  have hq : ∀ w : World, (binOp .quo 22 (.float .f64 (floatOfInt .f64 rs)) (.float .f64 4741671816366391296)).run Yba.prog w = .ok (.float .f64 (money rs)) w := fun w => run_float_arith w .quo 22 .f64 _ _ _ (money_eq rs)
  go_enter Yba.func3, Yba.ntmps3
  go_wp2_with fail
  refine (closed_ref _ rate spent ref rs won pctr _ hL.out (by omega) hr).mono ?_
  rintro e w5 ⟨c, rfl, hE, hb5⟩
  obtain ⟨m, w6, g1, hw6, r1⟩ := run_gives (P := Yba.prog) .mul (.inl rfl) 22 (money rs) rate w5
  obtain ⟨c', w7, g2, hw7, r2⟩ := run_gives (P := Yba.prog) .quo (.inr rfl) 22 m ref w6
  have hb7 : Below (w.heap.size + 1) (w.alloc (.cells #[.float .f64 rate, .int .i64 spent, .float .f64 ref, .int .i64 rs, .int .i64 won, .float .f64 pctr] 26)) w7 := by
    have hb5' : Below (w.heap.size + 1) (w.alloc (.cells #[.float .f64 rate, .int .i64 spent, .float .f64 ref, .int .i64 rs, .int .i64 won, .float .f64 pctr] 26)) w5 := by simpa using hb5
    exact below_drewed (below_drewed hb5' hw6) hw7
  obtain ⟨k0, k1, k2, k3, k4, k5⟩ : LayerAt w7 w.heap.size 0 rate spent ref rs won pctr := by
    obtain ⟨k0, k1, k2, k3, k4, k5⟩ := hL.out
    exact ⟨(hb7.cell (Nat.lt_succ_self _)).trans k0, (hb7.cell (Nat.lt_succ_self _)).trans k1, (hb7.cell (Nat.lt_succ_self _)).trans k2, (hb7.cell (Nat.lt_succ_self _)).trans k3, (hb7.cell (Nat.lt_succ_self _)).trans k4, (hb7.cell (Nat.lt_succ_self _)).trans k5⟩
  simp only [Nat.zero_add] at k1 k2 k3 k4 k5
  have hbel : Below w.heap.size w w7 := ((Below.refl _ _).alloc (Nat.le_refl _) _).trans (hb7.mono (Nat.le_succ _))
  have f0 : feqB c c' = true := feq_same (hE.same ⟨m, g1, g2⟩)
  have f1 := feq_refl rate
  have f2 := feq_refl ref
  have f3 := feq_refl pctr
  clear hb7 hb5 hE g1 g2 hw6 hw7 hL
  go_wp2_with (go_at_call 7; refine (feq_any _ _ _).mono ?_; rintro e w8 ⟨rfl, hw8⟩; rw [hw8]; clear hw8)
  go_ret
  exact ⟨rfl, hbel⟩

theorem closed_walk (spent rs : Int) (rate ref : Nat) (won : Int) (pctr : Nat) (w : World) :
    Calls Yba.prog 3 #[.int .i64 spent, .int .i64 rs, .float .f64 rate, .float .f64 ref, .int .i64 won, .float .f64 pctr] w fun e w' => e = .returned (.bool true) ∧ Below w.heap.size w w' := by
  by_cases h : 0 < spent
  · exact law_spent spent rs rate ref won pctr w h
  · by_cases hr : 0 < rs
    · exact law_ref spent rs rate ref won pctr w h hr
    · exact law_none spent rs rate ref won pctr w h hr
end Go.Proofs.Ybulkaklc
