/-
  'Rows.LawS1809CRatesSaid' proved. The frame is the kit's shell, turned to a slice of structs and three numbers.
-/
import Derived.Test.YbulkaklcOpen
import Derived.OpenShut
import Derived.ShutString
import Derived.ChangeOld
import Derived.Below
namespace Go.Proofs.Ybulkaklc.lawS1809CRates
open Go.ChangeShapes Go.WideShapes Go.ChangeAt Go.RowKit

theorem own : ownKnob Yba.prog.godebug = none := by kernel_rfl
theorem laidOut : laidOutB Yba.prog = true := by kernel_rfl

set_option maxRecDepth 100000 in
theorem big (a0 : Option Addr) (n cap : Nat) (irk tfk tm : Int) (w : World) (hn : ¬ n ≤ 1024) :
    Calls Yba.prog 5 #[.slice a0 n cap, .int .u8 irk, .int .u8 tfk, .int .i64 tm] w fun e w' => e = .returned (.bool true) ∧ Below w.heap.size w w' := by
  have hb : (1024 : Int) < (n : Int) := by omega
  go_enter Yba.func5, Yba.ntmps5
  go_wp2
  go_ret
  exact ⟨rfl, Below.refl _ _⟩

theorem walk (a0 : Option Addr) (n cap : Nat) (L : Nat → Ly) (irk tfk tm : Int) (w : World) (hin : IsIn w a0 n L) (w1 : (Lit.int .u8 irk).wf = true) (w2 : (Lit.int .u8 tfk).wf = true) (w3 : (Lit.int .i64 tm).wf = true) :
    Calls Yba.prog 5 #[.slice a0 n cap, .int .u8 irk, .int .u8 tfk, .int .i64 tm] w fun e w' => e = .returned (.bool true) ∧ Below w.heap.size w w' := by
  have b1 := bounds_u8 w1
  have b2 := bounds_u8 w2
  have b3 := bounds_i64 w3
  by_cases hn : n ≤ 1024
  · exact rates_small a0 n cap L irk tfk tm w hn hin b1.1 b1.2 b2.1 b2.2 b3.1 b3.2
  · exact big a0 n cap irk tfk tm w hn

set_option maxRecDepth 100000 in
theorem lifted (os : Os) (started : os.Started) (H : Type) (enc : TypeId × Value → H) :
    ReturnsInHanded {} Yba.checked os 5 .any (Rows.lawS1809CRatesSpec.pre6 enc Yba.prog Yba.f5 Rows.lawS1809CRatesRow.domain false) (Rows.lawS1809CRatesSpec.post enc Yba.prog Yba.f5 false true false false) := by
  refine returnsInHanded_of_change (C := Yba.checked) own started (by kernel_rfl) Yba.func5
    (ChangeSpec.witness6 (enc := enc) (C := Yba.checked) false ⟨#[], #[.slice none 0 0, .int .u8 0, .int .u8 0, .int .i64 0], []⟩ 8 (by kernel_rfl) (by kernel_rfl) (by kernel_rfl) (by kernel_rfl)) ?_
  intro W base args ds gs before hval0 hW hcnd _
  have hval : ∀ (j : Nat) t v, Yba.f5.params[j]? = some t → args[j]? = some v → Value.okWide Yba.prog W .any base t v := hval0
  have hW' := hW
  obtain ⟨p, q, hA0, hV, rfl, hfz, hnd⟩ := hW
  have hA : DataW.TrodAll enc Yba.prog W 0 (fun _ => true) true Yba.f5.params.toList args.toList ds p := hA0
  rw [Yba.params5] at hA hval
  obtain ⟨v0, vs0, d0, ds0, p0, q0, hargs, rfl, rfl, h0, r0⟩ := trodAll_cons hA
  obtain ⟨v1, vs1, d1, ds1, p1, q1, rfl, rfl, rfl, h1, r1⟩ := trodAll_cons r0
  obtain ⟨v2, vs2, d2, ds2, p2, q2, rfl, rfl, rfl, h2, r2⟩ := trodAll_cons r1
  obtain ⟨v3, vs3, d3, ds3, p3, q3, rfl, rfl, rfl, h3, r3⟩ := trodAll_cons r2
  obtain ⟨rfl, rfl, rfl⟩ := trodAll_nil r3
  obtain rfl : args = #[v0, v1, v2, v3] := by cases args; simp_all
  obtain ⟨rfl, rfl⟩ := trodVars_none hV
  obtain ⟨a0, len, cap, rfl⟩ := okWide_slice Yba.underlying34 (hval 0 34 v0 rfl rfl)
  obtain ⟨a1, rfl, rfl, rfl, w1⟩ := open_int Yba.underlying5 (hval 1 5 v1 rfl rfl) h1
  obtain ⟨a2, rfl, rfl, rfl, w2⟩ := open_int Yba.underlying5 (hval 2 5 v2 rfl rfl) h2
  obtain ⟨a3, rfl, rfl, rfl, w3⟩ := open_int Yba.underlying2 (hval 3 2 v3 rfl rfl) h3
  have lt0 : ∀ x ∈ p0, x.block < W.heap.size := by obtain ⟨m, hm⟩ := h0; exact DataW.trod_lt m _ _ _ hm
  obtain ⟨_, L, hin⟩ : len ≤ 9223372036854775807 ∧ ∃ L, IsIn W a0 len L := by
    obtain ⟨fuel, hf⟩ := h0
    exact open_in (by simpa [Value.cells] using hf)
  clear hA0 hval0
  simp only [List.append_nil] at hW'
  refine (walk a0 len cap L a1 a2 a3 W hin w1 w2 w3).mono fun e W' ⟨he, bel⟩ => ?_
  subst he
  have hT : DataW.TrodAll enc Yba.prog W' 0 (fun b => decide (b < W.heap.size)) true [34, 5, 5, 2] [.slice a0 len cap, .int .u8 a1, .int .u8 a2, .int .i64 a3] _ _ :=
    trodAll_cons_mk (Below.trod laidOut (by kernel_rfl) (of_decide_eq_true (by kernel_rfl)) h0 bel lt0) (trodAll_cons_mk (shut_int Yba.underlying5 w1) (trodAll_cons_mk (shut_int Yba.underlying5 w2) (trodAll_cons_mk (shut_int Yba.underlying2 w3) trodAll_mk0)))
  simp only [List.append_nil] at hT
  exact ⟨_, rfl, _, _, _, [], p0, [], hW', trodAll_mk1 (shut_bool Yba.underlying4 _), hT, rfl, bel.frame _, fun h => by cases h⟩

theorem over : Rows.lawS1809CRatesRow.holds Yba.pinned (OpenSpec.ofChange Rows.lawS1809CRatesSpec) :=
  OpenClaim.holds_of_wide 5 Yba.f5 rfl rfl rfl rfl rfl rfl rfl ⟨rfl, rfl, rfl, rfl, rfl⟩ rfl rfl rfl rfl rfl (by kernel_rfl) Yba.func5 (by kernel_rfl)
    (of_decide_eq_true (by kernel_rfl)) (by unfold Func.isWrapper; first | (rw [if_pos (by decide +kernel)]; kernel_rfl) | (rw [if_neg (by decide +kernel)]; exact ⟨rfl, rfl⟩))
    (fun os started H enc _ => lifted os started H enc)

theorem proved : Rows.LawS1809CRatesSaid := over
#print axioms proved
end Go.Proofs.Ybulkaklc.lawS1809CRates
