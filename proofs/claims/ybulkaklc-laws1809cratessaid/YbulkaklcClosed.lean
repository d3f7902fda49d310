/-
  'closedSpend', 'expectedSpend', 'Float64', the law's test: the walks; 'LawS1809AClosed'.
-/
import Derived.Test.YbulkaklcFloats
import Derived.WalkKit
import Derived.ProofKit
import Derived.WalkLawsBesides
import Derived.Deep.RegionWith
namespace Go.Proofs.Ybulkaklc
open Go.RowKit

theorem ret_bool {a b : Bool} (h : a = b) : Ending.returned (.bool a) = .returned (.bool b) := by rw [h]

/-- (Money).Float64. -/
theorem float64_any (n : Int) (w : World) : Calls Yba.prog 9 #[.int .i64 n] w fun e w' => e = .returned (.float .f64 (money n)) ∧ w' = w := by
  have hq : ∀ w : World, (binOp .quo 22 (.float .f64 (floatOfInt .f64 n)) (.float .f64 4741671816366391296)).run Yba.prog w = .ok (.float .f64 (money n)) w := fun w => run_float_arith w .quo 22 .f64 _ _ _ (money_eq n)
  go_enter Yba.func9, Yba.ntmps9
  go_wp2
  go_ret
  exact ⟨rfl, rfl⟩

/-- The law's test for equality. -/
theorem feq_any (a b : Nat) (w : World) : Calls Yba.prog 7 #[.float .f64 a, .float .f64 b] w fun e w' => e = .returned (.bool (feqB a b)) ∧ w' = w := by
  by_cases h : Ieee.double.order a a = some .eq
  · have H : Hid (feqB a b = (Ieee.double.order a b == some .eq)) := by simp only [Hid, feqB, if_pos h]
    have hx : (FloatKind.f64.format.order a a != some .eq) = false := by show (Ieee.double.order a a != some .eq) = false; rw [h]; rfl
    clear h
    go_enter Yba.func7, Yba.ntmps7
    go_wp2
    go_ret
    exact ⟨ret_bool H.out.symm, rfl⟩
  · have H : Hid (feqB a b = (Ieee.double.order b b != some .eq)) := by simp only [Hid, feqB, if_neg h]
    have hx : (FloatKind.f64.format.order a a != some .eq) = true := by show (Ieee.double.order a a != some .eq) = true; simpa using h
    clear h
    go_enter Yba.func7, Yba.ntmps7
    go_wp2
    go_ret
    exact ⟨ret_bool H.out.symm, rfl⟩

/-- What 'expectedSpend' may hand back, at a reference that is not nought. -/
def Exp (rs : Int) (rate ref b : Nat) : Prop := ∃ m, Gives (floatBits .mul .f64 (money rs) rate) m ∧ Gives (floatBits .quo .f64 m ref) b
theorem Exp.same {rs : Int} {rate ref a b : Nat} (ha : Exp rs rate ref a) (hb : Exp rs rate ref b) : Same a b := by
  obtain ⟨m, h1, h2⟩ := ha
  obtain ⟨m', h1', h2'⟩ := hb
  exact (h1.same h1').op (.inr rfl) h2 h2'
/-- The two operations, in whatever world: what they give, and that nothing turns but the count of draws. -/
theorem run_gives {P : Program} (op : BinOp) (hop : op = .mul ∨ op = .quo) (t : TypeId) (x y : Nat) (w : World) :
    ∃ b w', Gives (floatBits op .f64 x y) b ∧ (w' = w ∨ w' = w.drew) ∧ (binOp op t (.float .f64 x) (.float .f64 y)).run P w = .ok (.float .f64 b) w' := by
  cases h : floatBits op .f64 x y with
  | some r => exact ⟨r, w, .inl rfl, .inl rfl, run_float_arith w op t .f64 x y r h⟩
  | none =>
    obtain ⟨b, hb, hr⟩ := run_float_nan (P := P) w op hop t x y h
    exact ⟨b, w.drew, .inr ⟨rfl, hb⟩, .inr rfl, hr⟩
theorem below_drewed {B : Nat} {a w w' : World} (h : Below B a w) (hw : w' = w ∨ w' = w.drew) : Below B a w' := by
  rcases hw with rfl | rfl
  · exact h
  · exact h.drew

/-- The layer's cells. -/
def LayerAt (w : World) (b off : Nat) (rate : Nat) (spent : Int) (ref : Nat) (rs won : Int) (pctr : Nat) : Prop :=
  w.cell? ⟨b, off, none⟩ = some (.float .f64 rate) ∧ w.cell? ⟨b, off + 1, none⟩ = some (.int .i64 spent) ∧ w.cell? ⟨b, off + 2, none⟩ = some (.float .f64 ref) ∧ w.cell? ⟨b, off + 3, none⟩ = some (.int .i64 rs) ∧
    w.cell? ⟨b, off + 4, none⟩ = some (.int .i64 won) ∧ w.cell? ⟨b, off + 5, none⟩ = some (.float .f64 pctr)

set_option maxHeartbeats 3200000 in
theorem expected_any (b : Nat) (rate : Nat) (spent : Int) (ref : Nat) (rs won : Int) (pctr : Nat) (w : World) (hL : LayerAt w b 0 rate spent ref rs won pctr) (hrs : 0 < rs) :
    Calls Yba.prog 12 #[.pointer (some ⟨b, 0, none⟩)] w fun e w' => ∃ c, e = .returned (.float .f64 c) ∧ Exp rs rate ref c ∧ Below w.heap.size w w' := by
  obtain ⟨h0, h1, h2, h3, h4, h5⟩ := hL
  simp only [Nat.zero_add] at h1 h2 h3 h4 h5
  have hb := World.block_lt_of_cell? w _ h0
  have hz : (rs == 0) = false := beq_eq_false_iff_ne.2 (by omega)
  go_enter Yba.func12, Yba.ntmps12
  obtain ⟨m, w1, g1, hw1, r1⟩ := run_gives (P := Yba.prog) .mul (.inl rfl) 22 (money rs) rate w.drew
  obtain ⟨c, w2, g2, hw2, r2⟩ := run_gives (P := Yba.prog) .quo (.inr rfl) 22 m ref w1
  have hb1 : Below w.heap.size w w1 := below_drewed (Below.refl _ w).drew hw1
  have hb2 : Below w.heap.size w w2 := below_drewed hb1 hw2
  have k2 : w1.cell? ⟨b, 2, none⟩ = some (.float .f64 ref) := (hb1.cell (p := ⟨b, 2, none⟩) hb).trans h2
  have HG : Hid (Exp rs rate ref c) := ⟨m, g1, g2⟩
  clear g1 g2 hw1 hw2 hb1
  go_wp2_with fail
  go_region_with (go_at_call 9; refine (float64_any _ _).mono ?_; rintro e w5 ⟨rfl, hw5⟩; rw [hw5]; clear hw5)
  all_goals
    go_wp2
    go_ret
    exact ⟨_, rfl, HG.out, hb2⟩
end Go.Proofs.Ybulkaklc
