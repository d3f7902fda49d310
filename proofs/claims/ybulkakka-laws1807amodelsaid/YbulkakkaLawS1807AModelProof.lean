/-
  'Rows.LawS1807AModelSaid' proved: isLowerWord agrees with the model byte by byte. The frame is the kit's shell; the step's end speaks of 'Below' ([]byte(s) makes a block that bears a mark).
-/
import Derived.Test.YbulkakkaRows
import Derived.WalkKit
import Derived.ProofKit
import Derived.OpenShut
import Derived.ShutString
import Derived.Below
import Derived.Test.YbulkakkaOk
namespace Go.Proofs.Ybulkakka.lawS1807AModel
open Go.ChangeShapes Go.WideShapes Go.ChangeAt Go.RowKit
open Go.ChangeMaps (open_string shut_string)
set_option linter.unusedVariables false      -- a walk need not use every 'w<i>' (that an integer argument fits its kind)

theorem own : ownKnob Yba.prog.godebug = none := by kernel_rfl

/-- The first k bytes of s are all such as a lower word may bear. -/
def lowTo (s : ByteArray) (k : Nat) : Bool := (s.data.toList.take k).all fun b => okB (b.toNat : Int)
theorem lowTo_succ (s : ByteArray) (k : Nat) (h : k < s.size) : lowTo s (k + 1) = (lowTo s k && okB (s[k].toNat : Int)) := by
  unfold lowTo
  rw [List.take_succ_eq_append_getElem (by simpa using h), List.all_append]
  simp
  rfl
theorem lowTo_all (s : ByteArray) (k : Nat) (h : s.size ≤ k) : lowTo s k = lowB s := by
  unfold lowTo lowB
  rw [List.take_of_length_le (by simpa using h)]

set_option maxHeartbeats 400000 in
theorem walk (a0 : ByteArray) (w0 : a0.size ≤ maxLen) (w : World) :
    Calls Yba.prog 3 #[.string a0] w fun e w' => e = .returned (.bool true) ∧ Below w.heap.size w w' := by
  have w0' : Hid (a0.size ≤ maxLen) := w0
  unfold maxLen at w0
  by_cases hbig : 4096 < a0.size
  · go_enter Yba.func3, Yba.ntmps3
    go_wp2
    go_ret
    exact ⟨rfl, Below.refl _ _⟩
  · go_enter Yba.func3, Yba.ntmps3
    go_wp2
    go_loop [3, 4] (fun t i => ∃ k : Nat, k ≤ a0.size ∧ i = .int .i64 k ∧ t = .bool (lowTo a0 k)) (fun _ i => a0.size - (intOf i).toNat)
    case atStart => exact ⟨0, Nat.zero_le _, rfl, rfl⟩
    case round =>
      obtain ⟨k, hk, rfl, rfl⟩ := hrel
      by_cases hlt : k < a0.size
      · have HS : Hid (lowTo a0 (k + 1) = (lowTo a0 k && okB (a0[k].toNat : Int))) := lowTo_succ a0 k hlt
        by_cases hb : okB (a0[k].toNat : Int) = true
        · have HS2 : Hid (lowTo a0 (k + 1) = lowTo a0 k) := by rw [HS.out, hb]; simp [Hid]
          go_wp2_with (go_at_call 5; refine (ok_any _ _).mono ?_; rintro e w' ⟨rfl, rfl⟩)
          go_round
          case rel => exact ⟨k + 1, by omega, by go_num, by rw [HS2.out]⟩
          case measure => simp [intOf]; omega
        · have hb' : okB (a0[k].toNat : Int) = false := by simpa using hb
          have HS2 : Hid (lowTo a0 (k + 1) = false) := by rw [HS.out, hb']; simp [Hid]
          go_wp2_with (go_at_call 5; refine (ok_any _ _).mono ?_; rintro e w' ⟨rfl, rfl⟩)
          go_round
          case rel => exact ⟨k + 1, by omega, by go_num, by rw [HS2.out]⟩
          case measure => simp [intOf]; omega
      · have HS2 : Hid (lowTo a0 k = lowB a0) := lowTo_all a0 k (by omega)
        go_wp2_with (go_at_call 6; refine (low_any a0 w0'.out _).mono ?_; rintro e w' ⟨rfl, hb⟩)
        go_ret
        exact ⟨ret_bool (by rw [HS2.out]; simp), hb⟩

/-! ### THE ROW's STEP: WRITTEN OUT: LEAVE IT -/
set_option maxRecDepth 100000 in
theorem lifted (os : Os) (started : os.Started) (H : Type) (enc : TypeId × Value → H) :
    ReturnsInHanded {} Yba.checked os 3 .any (Rows.lawS1807AModelSpec.pre6 enc Yba.prog Yba.f3 Rows.lawS1807AModelRow.domain false) (Rows.lawS1807AModelSpec.post enc Yba.prog Yba.f3 false true false false) := by
  refine returnsInHanded_of_change (C := Yba.checked) own started (by kernel_rfl) Yba.func3
    (ChangeSpec.witness6 (enc := enc) (C := Yba.checked) false ⟨#[], #[.string ByteArray.empty], []⟩ 8 (by kernel_rfl) (by kernel_rfl) (by kernel_rfl) (by kernel_rfl)) ?_
  intro W base args ds gs before hval0 hW hcnd _
  have hval : ∀ (j : Nat) t v, Yba.f3.params[j]? = some t → args[j]? = some v → Value.okWide Yba.prog W .any base t v := hval0
  have hW' := hW
  obtain ⟨p, q, hA0, hV, rfl, hfz, hnd⟩ := hW
  have hA : DataW.TrodAll enc Yba.prog W 0 (fun _ => true) true Yba.f3.params.toList args.toList ds p := hA0
  rw [Yba.params3] at hA hval
  obtain ⟨v0, vs0, d0, ds0, p0, q0, hargs, rfl, rfl, h0, r0⟩ := trodAll_cons hA
  obtain ⟨rfl, rfl, rfl⟩ := trodAll_nil r0
  obtain rfl : args = #[v0] := by cases args; simp_all
  obtain ⟨rfl, rfl⟩ := trodVars_none hV
  obtain ⟨a0, rfl, rfl, rfl, w0⟩ := open_string Yba.underlying9 (hval 0 9 v0 rfl rfl) h0
  clear hA0 hval0
  simp only [List.append_nil] at hW'
  refine (walk a0 w0 W).mono fun e W' ⟨he, bel⟩ => ?_
  subst he
  exact ⟨_, rfl, _, _, _, [], [], [], hW', trodAll_mk1 (shut_bool Yba.underlying4 _), trodAll_mk1 (shut_string Yba.underlying9 w0), rfl, bel.frame _, fun h => by cases h⟩

theorem over : Rows.lawS1807AModelRow.holds Yba.pinned (OpenSpec.ofChange Rows.lawS1807AModelSpec) :=
  OpenClaim.holds_of_wide 3 Yba.f3 rfl rfl rfl rfl rfl rfl rfl ⟨rfl, rfl, rfl, rfl, rfl⟩ rfl rfl rfl rfl rfl (by kernel_rfl) Yba.func3 (by kernel_rfl)
    (of_decide_eq_true (by kernel_rfl)) (by unfold Func.isWrapper; first | (rw [if_pos (by decide +kernel)]; kernel_rfl) | (rw [if_neg (by decide +kernel)]; exact ⟨rfl, rfl⟩))
    (fun os started H enc _ => lifted os started H enc)

/-- ████ THE STATEMENT ████ -/
theorem proved : Rows.LawS1807AModelSaid :=
  over
#print axioms proved
end Go.Proofs.Ybulkakka.lawS1807AModel
