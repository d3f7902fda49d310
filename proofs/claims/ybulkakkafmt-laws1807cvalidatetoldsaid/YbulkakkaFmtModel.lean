/-
  The law's own model: 'zzs1807cisname', 'zzs1807cname', 'zzs1807cdefects': the plain functions and the walks.
-/
import Derived.Test.YbulkakkaFmtNames
import Derived.Deep.QuietTactic
import Derived.BigQuiet
namespace Go.Proofs.YbulkakkaFmt
open Go.RowKit

set_option maxHeartbeats 400000 in
/-- zzs1807cisname. -/
theorem isname_any (s : ByteArray) (hs : s.size ≤ maxLen) (w : World) :
    Calls Ybaf.prog 17 #[.string s] w fun e w' => e = .returned (.bool (isNm s)) ∧ w' = w := by
  unfold maxLen at hs
  by_cases h1 : 0 < s.size
  · have hb : ((s[0]'h1).toNat : Int) = bAt s 0 := at_bAt s 0 h1
    have h10 : ((s.size : Int) == 0) = false := beq_eq_false_iff_ne.2 (by omega)
    by_cases h2 : s.size ≤ 64
    · by_cases h3 : 97 ≤ bAt s 0
      · by_cases h4 : bAt s 0 ≤ 122
        · have H : Hid (isNm s = lowB s) := isNm_low h1 h2 h3 h4
          go_enter Ybaf.func17, Ybaf.ntmps17
          go_wp2
          go_loop [3] (fun i => ∃ k : Nat, k ≤ s.size ∧ i = .int .i64 k ∧ ∀ j, j < k → okB (bAt s j) = true) (fun i => s.size - (intOf i).toNat)
          case atStart => exact ⟨0, Nat.zero_le _, rfl, fun j hj => absurd hj (Nat.not_lt_zero j)⟩
          case round =>
            obtain ⟨k, hk, rfl, hall⟩ := hrel
            have HA : Hid (∀ j, j < k → okB (bAt s j) = true) := hall
            clear hall hb
            by_cases hlt : k < s.size
            · have hbk := at_bAt s k hlt
              have HT : Hid ((97 ≤ bAt s k ∧ bAt s k ≤ 122) ∨ (48 ≤ bAt s k ∧ bAt s k ≤ 57) ∨ bAt s k = 95 → okB (bAt s k) = true) := okB_t
              have HF : Hid (¬ ((97 ≤ bAt s k ∧ bAt s k ≤ 122) ∨ (48 ≤ bAt s k ∧ bAt s k ≤ 57) ∨ bAt s k = 95) → lowB s = false) := fun h => lowB_f k hlt (okB_f h)
              have HR : Hid (okB (bAt s k) = true → ∀ j, j < k + 1 → okB (bAt s j) = true) := fun h j hj => by
                by_cases e : j = k
                · rw [e]; exact h
                · exact HA.out j (by omega)
              by_cases e95 : bAt s k = 95
              · have e96 : (bAt s k == 95) = true := beq_iff_eq.2 e95
                have HT' : Hid (okB (bAt s k) = true) := HT.out (by omega)
                clear e95
                have l1 : 48 ≤ bAt s k := by simp at e96; omega
                have l2 : bAt s k < 97 := by simp at e96; omega
                have l3 : 57 < bAt s k := by simp at e96; omega
                go_wp2
                go_round
                case rel => exact ⟨k + 1, by omega, by go_num, HR.out HT'.out⟩
                case measure => simp [intOf]; omega
              · have e96 : (bAt s k == 95) = false := beq_eq_false_iff_ne.2 e95
                have E95 : Hid (¬ bAt s k = 95) := e95
                clear e95
                go_wp2
                all_goals have e95 := E95.out
                all_goals first
                  | (go_ret; exact ⟨ret_bool (H.out.trans (HF.out (by omega))).symm, rfl⟩)
                  | (go_round
                     case rel => exact ⟨k + 1, by omega, by go_num, HR.out (HT.out (by first | omega | (simp at *; omega)))⟩
                     case measure => simp [intOf]; omega)
            · go_wp2
              go_ret
              exact ⟨ret_bool (H.out.trans (lowB_t fun j hj => HA.out j (by omega))).symm, rfl⟩
        · have H : Hid (isNm s = false) := isNm_head (by omega)
          go_enter Ybaf.func17, Ybaf.ntmps17
          go_wp2
          go_ret
          exact ⟨ret_bool H.out.symm, rfl⟩
      · have H : Hid (isNm s = false) := isNm_head (by omega)
        go_enter Ybaf.func17, Ybaf.ntmps17
        go_wp2
        go_ret
        exact ⟨ret_bool H.out.symm, rfl⟩
    · have H : Hid (isNm s = false) := isNm_short (by omega)
      go_enter Ybaf.func17, Ybaf.ntmps17
      go_wp2
      go_ret
      exact ⟨ret_bool H.out.symm, rfl⟩
  · have H : Hid (isNm s = false) := isNm_short (by omega)
    have h10 : ((s.size : Int) == 0) = true := beq_iff_eq.2 (by omega)
    go_enter Ybaf.func17, Ybaf.ntmps17
    go_wp2
    go_ret
    exact ⟨ret_bool H.out.symm, rfl⟩

/-- zzs1807cname, as a function of the number's last digit. -/
def nmOf (d : Nat) : ByteArray := match d with
  | 0 => ⟨#[]⟩ | 1 => ⟨#[97]⟩ | 2 => ⟨#[98]⟩ | 3 => ⟨#[97, 95, 49]⟩ | 4 => ⟨#[65]⟩ | 5 => ⟨#[95, 120]⟩ | 6 => ⟨#[57, 122]⟩ | 7 => ⟨#[114, 101, 97, 100, 32, 119, 114, 105, 116, 101]⟩
  | 8 => ⟨(Lib.repeatL [97] 64).toArray⟩ | _ => ⟨(Lib.repeatL [97] 65).toArray⟩
def nm (k : Int) : ByteArray := nmOf (k % 10).toNat
theorem nmOf_size : ∀ d, d < 10 → (nmOf d).size ≤ 65 := by decide +kernel
theorem nm_size (k : Int) : (nm k).size ≤ 65 := nmOf_size _ (by omega)
theorem ret_str {a b : ByteArray} (h : a = b) : Ending.returned (.string a) = .returned (.string b) := by rw [h]

set_option maxHeartbeats 400000 in
theorem cname_any (k : Int) (h0 : 0 ≤ k) (h1 : k ≤ 255) (w : World) :
    Calls Ybaf.prog 9 #[.int .u8 k] w fun e w' => e = .returned (.string (nm k)) ∧ Below w.heap.size w w' := by
  have hd : k % 10 = 0 ∨ k % 10 = 1 ∨ k % 10 = 2 ∨ k % 10 = 3 ∨ k % 10 = 4 ∨ k % 10 = 5 ∨ k % 10 = 6 ∨ k % 10 = 7 ∨ k % 10 = 8 ∨ k % 10 = 9 := by omega
  rcases hd with h | h | h | h | h | h | h | h | h | h
  all_goals
    have H : Hid (nm k = nmOf _) := congrArg (fun d : Int => nmOf d.toNat) h
    go_enter Ybaf.func9, Ybaf.ntmps9
    go_wp2_with (go_at_call 16; refine (Ybaf.strings_Repeat _ _ _ (by decide) (by decide)).mono ?_; rintro e w' ⟨rfl, hb⟩)
    go_ret
    first
      | exact ⟨ret_str H.out.symm, Below.refl _ _⟩
      | exact ⟨ret_str H.out.symm, hb⟩
end Go.Proofs.YbulkakkaFmt
