/-
  'rateFor', 'trialRate', 'offerTrial', 'lowestPaced': contracts.
-/
import Derived.Test.YbulkaklcPlain
import Derived.BigQuiet
namespace Go.Proofs.Ybulkaklc
open Go.RowKit
attribute [local go_sem] run_store_float

theorem ret_float {a b : Nat} (h : a = b) : Ending.returned (.float .f64 a) = .returned (.float .f64 b) := by rw [h]
structure Pac (w : World) (bp bl n ir tf : Nat) : Prop where
  c3 : w.cell? ⟨bp, 3, none⟩ = some (.float .f64 ir)
  c4 : w.cell? ⟨bp, 4, none⟩ = some (.float .f64 tf)
  c12 : w.cell? ⟨bp, 12, none⟩ = some (.slice (some ⟨bl, 0, none⟩) n n)
theorem Pac.lt {w : World} {bp bl n ir tf : Nat} (h : Pac w bp bl n ir tf) : bp < w.heap.size := World.block_lt_of_cell? w _ h.c3
theorem Pac.below {w w' : World} {bp bl n ir tf B : Nat} (h : Pac w bp bl n ir tf) (hb : Below B w w') (hB : bp < B) : Pac w' bp bl n ir tf :=
  ⟨(hb.cell (p := ⟨bp, 3, none⟩) hB).trans h.c3, (hb.cell (p := ⟨bp, 4, none⟩) hB).trans h.c4, (hb.cell (p := ⟨bp, 12, none⟩) hB).trans h.c12⟩
theorem Pac.set {w : World} {bp bl n ir tf : Nat} (h : Pac w bp bl n ir tf) {b j : Nat} (hne : b ≠ bp) (v : Value) : Pac (w.setCell ⟨b, j, none⟩ v) bp bl n ir tf :=
  ⟨cell_far h.c3 (.inl hne), cell_far h.c4 (.inl hne), cell_far h.c12 (.inl hne)⟩
theorem below_drewN' {B : Nat} {a w : World} (h : Below B a w) (n : Nat) : Below B a (w.drewN n) := h.trans ⟨rfl, rfl, rfl, Nat.le_refl _, fun _ _ => rfl⟩

set_option maxHeartbeats 800000 in
theorem rateFor_any (bl off : Nat) (rate : Nat) (spent : Int) (ref : Nat) (rs : Int) (spend m r : Nat) (w : World) (hL : LayerAt w bl off rate spent ref rs 0 0) (hm : floatBits .mul .f64 ref spend = some m) (hr : floatBits .quo .f64 m (money rs) = some r) :
    Calls Yba.prog 18 #[.pointer (some ⟨bl, off, none⟩), .float .f64 spend] w fun e w' => e = .returned (.float .f64 r) ∧ Below w.heap.size w w' := by
  obtain ⟨h0, h1, h2, h3, h4, h5⟩ := hL
  have q1 : ∀ w : World, (binOp .mul 22 (.float .f64 ref) (.float .f64 spend)).run Yba.prog w = .ok (.float .f64 m) w := fun w => run_float_arith w .mul 22 .f64 _ _ _ hm
  have q2 : ∀ w : World, (binOp .quo 22 (.float .f64 m) (.float .f64 (money rs))).run Yba.prog w = .ok (.float .f64 r) w := fun w => run_float_arith w .quo 22 .f64 _ _ _ hr
  clear hm hr
  go_enter Yba.func18, Yba.ntmps18
  go_wp2_with fail
  go_quiet ((go_at_call 9; refine Calls.quiet_of_same (float64_any _ _)))
  go_wp2
  go_ret
  exact ⟨rfl, below_drewN' (Below.refl _ _) _⟩

section
variable {L : Nat → Ly} {n ir tf t : Nat}
set_option maxHeartbeats 800000 in
theorem trial_none (bp bl i : Nat) (R : Nat → Nat) (w : World) (hp : Pac w bp bl n ir tf) (hR : Row w bl n (lays L R)) (hi : i < n) (h0 : (L i).rs = 0) :
    Calls Yba.prog 17 #[.pointer (some ⟨bp, 0, none⟩), .int .i64 i, .float .f64 t] w fun e w' => e = .returned (.float .f64 (trial L ir tf t i)) ∧ Below w.heap.size w w' := by
  have HT : Hid (trial L ir tf t i = ir) := by simp [Hid, trial, h0]
  obtain ⟨c3, c4, c12⟩ := hp
  obtain ⟨g0, g1, g2, g3, g4, g5⟩ := hR.lay i hi
  have g3' : w.cell? ⟨bl, i * 6 + 3, none⟩ = some (.int .i64 0) := by rw [g3]; simp [lays, layOf, h0]
  clear g3 g0 g1 g2 g4 g5 hR h0
  go_enter Yba.func17, Yba.ntmps17
  go_wp2
  go_ret
  exact ⟨ret_float HT.out.symm, Below.refl _ _⟩
set_option maxHeartbeats 800000 in
theorem trial_some (bp bl i : Nat) (R : Nat → Nat) (w : World) (hg : Hid (Good L n ir tf t)) (hp : Pac w bp bl n ir tf) (hR : Row w bl n (lays L R)) (hi : i < n) (h0 : (L i).rs ≠ 0) :
    Calls Yba.prog 17 #[.pointer (some ⟨bp, 0, none⟩), .int .i64 i, .float .f64 t] w fun e w' => e = .returned (.float .f64 (trial L ir tf t i)) ∧ Below w.heap.size w w' := by
  have HT : Hid (trial L ir tf t i = fmin1 (fdiv (fmul (layOf (L i)).ref (fmul tf t)) (money (L i).rs))) := by simp [Hid, trial, h0]
  have HL : Hid (LayerAt w bl (i * 6) (R i) (L i).spent (layOf (L i)).ref (L i).rs 0 0) := hR.lay i hi
  obtain ⟨c3, c4, c12⟩ := hp
  obtain ⟨g0, g1, g2, g3, g4, g5⟩ := HL.out
  have hz : ((L i).rs == 0) = false := by simpa using h0
  have q1 : ∀ w : World, (binOp .mul 22 (.float .f64 tf) (.float .f64 t)).run Yba.prog w = .ok (.float .f64 (fmul tf t)) w := fun w => run_float_arith w .mul 22 .f64 _ _ _ hg.out.tft.1
  have HM := (show Hid _ from (hg.out.refm hi h0).1)
  have HD := (show Hid _ from (hg.out.refd hi h0).1)
  have hmin := fun ats ty w => run_min (P := Yba.prog) (hg.out.refd hi h0).2 ats ty w
  clear h0 hR g0 g1 g2 g4 g5
  go_enter Yba.func17, Yba.ntmps17
  go_wp2_with (go_at_call 18; refine (rateFor_any bl (i * 6) _ _ _ _ _ _ _ _ HL.out HM.out HD.out).mono ?_; rintro e w5 ⟨rfl, hb⟩)
  go_ret
  exact ⟨ret_float HT.out.symm, hb⟩
theorem trial_any (bp bl i : Nat) (R : Nat → Nat) (w : World) (hg : Hid (Good L n ir tf t)) (hp : Pac w bp bl n ir tf) (hR : Row w bl n (lays L R)) (hi : i < n) :
    Calls Yba.prog 17 #[.pointer (some ⟨bp, 0, none⟩), .int .i64 i, .float .f64 t] w fun e w' => e = .returned (.float .f64 (trial L ir tf t i)) ∧ Below w.heap.size w w' := by
  by_cases h0 : (L i).rs = 0
  · exact trial_none bp bl i R w hp hR hi h0
  · exact trial_some bp bl i R w hg hp hR hi h0
end
end Go.Proofs.Ybulkaklc
