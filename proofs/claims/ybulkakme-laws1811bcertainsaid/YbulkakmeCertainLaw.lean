/-
  'LawS1811BCertain': the walk.
-/
import Derived.Test.YbulkakmeCertain
import Derived.OpenShut
namespace Go.Proofs.Ybulkakme
open Go.RowKit

def sameTo (op n t : Int) : Nat → Bool
  | 0 => true
  | k + 1 => sameTo op n t k && (holdsB op n (t + ((k : Int) + 1)) == holdsB op n t)
theorem sameTo_true (op n t : Int) : ∀ k : Nat, sameTo op n t k = true → ∀ j : Nat, j < k → holdsB op n (t + ((j : Int) + 1)) = holdsB op n t
  | 0, _, _, hj => absurd hj (Nat.not_lt_zero _)
  | k + 1, h, j, hj => by
    simp only [sameTo, Bool.and_eq_true, beq_iff_eq] at h
    rcases Nat.lt_succ_iff_lt_or_eq.1 hj with hj | rfl
    · exact sameTo_true op n t k h.1 j hj
    · exact h.2
theorem sameTo_mk (op n t : Int) : ∀ k : Nat, (∀ j : Nat, j < k → holdsB op n (t + ((j : Int) + 1)) = holdsB op n t) → sameTo op n t k = true
  | 0, _ => rfl
  | k + 1, h => by simp only [sameTo, Bool.and_eq_true, beq_iff_eq]; exact ⟨sameTo_mk op n t k fun j hj => h j (Nat.lt_succ_of_lt hj), h k (Nat.lt_succ_self k)⟩

/-- The plain law: known exactly where every way of deciding the rest gives the same; and then the value is that. -/
theorem plain_known (op n t f : Int) (hop : IsOp op) (h4 : op = 4 → n = 1) (ht : 0 ≤ t) (hf : 0 ≤ f) (hs : t + f ≤ n) : knownOf op n t f = sameTo op n t (n - t - f).toNat := by
  rw [Bool.eq_iff_iff]
  constructor
  · intro h
    refine sameTo_mk op n t _ fun j hj => ?_
    rcases hop with rfl | rfl | rfl | rfl
    all_goals
      simp [knownOf] at h
      simp [holdsB]
    · rw [Bool.eq_iff_iff]; simp only [beq_iff_eq]; omega
    · omega
    · have := h4 rfl
      rw [Bool.eq_iff_iff]; simp only [beq_iff_eq]; omega
    · rw [Bool.eq_iff_iff]; simp only [beq_iff_eq]; omega
  · intro h
    have hs1 := sameTo_true op n t _ h
    rcases hop with rfl | rfl | rfl | rfl
    · simp [knownOf]
      simp [holdsB] at hs1
      by_cases h0 : 0 < f
      · exact .inl h0
      · right
        have hf0 : f = 0 := by omega
        subst hf0
        by_cases hr : t = n
        · exact hr
        · have := hs1 ((n - t - 0).toNat - 1) (by omega)
          rw [Bool.eq_iff_iff] at this
          simp only [beq_iff_eq] at this
          omega
    · simp [knownOf]
      simp [holdsB] at hs1
      by_cases h0 : 0 < t
      · exact .inl h0
      · right
        by_cases hr : f = n
        · exact hr
        · have := hs1 0 (by omega)
          omega
    · have := h4 rfl
      simp [knownOf]
      simp [holdsB] at hs1
      by_cases hr : t + f = n
      · exact hr
      · have := hs1 0 (by omega)
        rw [Bool.eq_iff_iff] at this
        simp only [beq_iff_eq] at this
        omega
    · simp [knownOf]
      simp [holdsB] at hs1
      by_cases h0 : 1 < t
      · exact .inl h0
      · right
        by_cases hr : t + f = n
        · exact hr
        · have := hs1 0 (by omega)
          rw [Bool.eq_iff_iff] at this
          simp only [beq_iff_eq] at this
          omega
theorem plain_value (op n t f : Int) (hop : IsOp op) (h4 : op = 4 → n = 1) (ht : 0 ≤ t) (hf : 0 ≤ f) (hs : t + f ≤ n) (h : knownOf op n t f = true) : vOf op t f = holdsB op n t := by
  rw [Bool.eq_iff_iff]
  rcases hop with rfl | rfl | rfl | rfl
  all_goals
    simp [knownOf] at h
    simp [holdsB, vOf]
  · omega
  · have := h4 rfl
    omega

set_option maxHeartbeats 800000 in
theorem walk2 (a0 a1 a2 a3 n t f : Int) (w1 : 0 ≤ a1 ∧ a1 ≤ 65535) (w2 : 0 ≤ a2 ∧ a2 ≤ 65535) (w3 : 0 ≤ a3 ∧ a3 ≤ 65535) (w : World) (h0 : a0.tmod 4 = 0) (hn : a1.tmod 300 = n) (hnn : 0 ≤ n ∧ n < 300) (ht : a2.tmod (n + 1) = t) (hf : a3.tmod (n - t + 1) = f) (htt : 0 ≤ t ∧ t ≤ n) (hff : 0 ≤ f ∧ f ≤ n - t) :
    Calls Yba.prog 3 #[.int .u8 a0, .int .u16 a1, .int .u16 a2, .int .u16 a3] w fun e w' => e = .returned (.bool true) ∧ Grown w w' := by
  have hop : Hid (IsOp 2) := by simp [Hid, IsOp]
  have PK : Hid (knownOf 2 n t f = sameTo 2 n t (n - t - f).toNat) := plain_known 2 n t f hop.out (by simp) htt.1 hff.1 (by omega)
  have PV : Hid (knownOf 2 n t f = true → vOf 2 t f = holdsB 2 n t) := plain_value 2 n t f hop.out (by simp) htt.1 hff.1 (by omega)
  go_enter Yba.func3, Yba.ntmps3
  go_wp2_with (first
    | (go_at_call 5; refine (value_any 2 _ n t f _ hop.out (by simp) (by simp) (by omega) (by omega)).mono ?_; rintro e w5 ⟨rfl, hg⟩)
    | (go_at_call 6; refine (holds_any 2 n t _ hop.out).mono ?_; rintro e w6 ⟨rfl, hw6⟩; rw [hw6]; clear hw6))
  have hg' : Grown w w5 := hg w (by apply Grown.alloc; exact Grown.refl _)
  clear hg
  generalize hH : holdsB 2 n t = first at *
  have HH : Hid (holdsB 2 n t = first) := hH
  clear hH
  generalize hK : knownOf 2 n t f = known at *
  generalize hV : vOf 2 t f = v at *
  clear hK hV
  go_loop [18, 19] (fun vs vk => ∃ k : Nat, (k : Int) ≤ n - t - f ∧ vk = .int .i64 (k + 1) ∧ vs = .bool (sameTo 2 n t k)) (fun _ vk => (n - t - f + 1).toNat - (intOf vk).toNat)
  case atStart => exact ⟨0, by omega, rfl, rfl⟩
  case round =>
    obtain ⟨k, hk, rfl, rfl⟩ := hrel
    by_cases hlt : (k : Int) < n - t - f
    · have HS : Hid (sameTo 2 n t (k + 1) = (sameTo 2 n t k && (holdsB 2 n (t + ((k : Int) + 1)) == first))) := by rw [← HH.out]; rfl
      generalize hX : holdsB 2 n (t + ((k : Int) + 1)) = X at *
      have HX : Hid (holdsB 2 n (t + ((k : Int) + 1)) = X) := hX
      clear hX
      cases first <;> cases X
      all_goals
        go_wp2_with (go_at_call 6; refine (holds_any 2 n (t + ((k : Int) + 1)) _ hop.out).mono ?_; rw [HX.out]; rintro e w6 ⟨rfl, hw6⟩; rw [hw6]; clear hw6)
        go_round
        case rel => exact ⟨k + 1, by omega, by go_num, by rw [HS.out]; simp⟩
        case measure => simp [intOf]; omega
    · have hkk : (n - t - f).toNat = k := by omega
      have PK2 : sameTo 2 n t k = known := by rw [PK.out, hkk]
      rw [PK2]
      cases known with
      | false =>
        go_wp2
        go_ret
        exact ⟨rfl, hg'⟩
      | true =>
        have hv := PV.out rfl
        subst hv
        cases v <;>
        · go_wp2
          go_ret
          exact ⟨rfl, hg'⟩
set_option maxHeartbeats 800000 in
theorem walk3 (a0 a1 a2 a3 n t f : Int) (w1 : 0 ≤ a1 ∧ a1 ≤ 65535) (w2 : 0 ≤ a2 ∧ a2 ≤ 65535) (w3 : 0 ≤ a3 ∧ a3 ≤ 65535) (w : World) (h0 : a0.tmod 4 = 1) (hn : a1.tmod 300 = n) (hnn : 0 ≤ n ∧ n < 300) (ht : a2.tmod (n + 1) = t) (hf : a3.tmod (n - t + 1) = f) (htt : 0 ≤ t ∧ t ≤ n) (hff : 0 ≤ f ∧ f ≤ n - t) :
    Calls Yba.prog 3 #[.int .u8 a0, .int .u16 a1, .int .u16 a2, .int .u16 a3] w fun e w' => e = .returned (.bool true) ∧ Grown w w' := by
  have hop : Hid (IsOp 3) := by simp [Hid, IsOp]
  have PK : Hid (knownOf 3 n t f = sameTo 3 n t (n - t - f).toNat) := plain_known 3 n t f hop.out (by simp) htt.1 hff.1 (by omega)
  have PV : Hid (knownOf 3 n t f = true → vOf 3 t f = holdsB 3 n t) := plain_value 3 n t f hop.out (by simp) htt.1 hff.1 (by omega)
  go_enter Yba.func3, Yba.ntmps3
  go_wp2_with (first
    | (go_at_call 5; refine (value_any 3 _ n t f _ hop.out (by simp) (by simp) (by omega) (by omega)).mono ?_; rintro e w5 ⟨rfl, hg⟩)
    | (go_at_call 6; refine (holds_any 3 n t _ hop.out).mono ?_; rintro e w6 ⟨rfl, hw6⟩; rw [hw6]; clear hw6))
  have hg' : Grown w w5 := hg w (by apply Grown.alloc; exact Grown.refl _)
  clear hg
  generalize hH : holdsB 3 n t = first at *
  have HH : Hid (holdsB 3 n t = first) := hH
  clear hH
  generalize hK : knownOf 3 n t f = known at *
  generalize hV : vOf 3 t f = v at *
  clear hK hV
  go_loop [18, 19] (fun vs vk => ∃ k : Nat, (k : Int) ≤ n - t - f ∧ vk = .int .i64 (k + 1) ∧ vs = .bool (sameTo 3 n t k)) (fun _ vk => (n - t - f + 1).toNat - (intOf vk).toNat)
  case atStart => exact ⟨0, by omega, rfl, rfl⟩
  case round =>
    obtain ⟨k, hk, rfl, rfl⟩ := hrel
    by_cases hlt : (k : Int) < n - t - f
    · have HS : Hid (sameTo 3 n t (k + 1) = (sameTo 3 n t k && (holdsB 3 n (t + ((k : Int) + 1)) == first))) := by rw [← HH.out]; rfl
      generalize hX : holdsB 3 n (t + ((k : Int) + 1)) = X at *
      have HX : Hid (holdsB 3 n (t + ((k : Int) + 1)) = X) := hX
      clear hX
      cases first <;> cases X
      all_goals
        go_wp2_with (go_at_call 6; refine (holds_any 3 n (t + ((k : Int) + 1)) _ hop.out).mono ?_; rw [HX.out]; rintro e w6 ⟨rfl, hw6⟩; rw [hw6]; clear hw6)
        go_round
        case rel => exact ⟨k + 1, by omega, by go_num, by rw [HS.out]; simp⟩
        case measure => simp [intOf]; omega
    · have hkk : (n - t - f).toNat = k := by omega
      have PK2 : sameTo 3 n t k = known := by rw [PK.out, hkk]
      rw [PK2]
      cases known with
      | false =>
        go_wp2
        go_ret
        exact ⟨rfl, hg'⟩
      | true =>
        have hv := PV.out rfl
        subst hv
        cases v <;>
        · go_wp2
          go_ret
          exact ⟨rfl, hg'⟩
set_option maxHeartbeats 800000 in
theorem walk4 (a0 a1 a2 a3 t f : Int) (w1 : 0 ≤ a1 ∧ a1 ≤ 65535) (w2 : 0 ≤ a2 ∧ a2 ≤ 65535) (w3 : 0 ≤ a3 ∧ a3 ≤ 65535) (w : World) (h0 : a0.tmod 4 = 2) (n0 : Int) (hn : a1.tmod 300 = n0) (ht : a2.tmod 2 = t) (hf : a3.tmod (1 - t + 1) = f) (htt : 0 ≤ t ∧ t ≤ 1) (hff : 0 ≤ f ∧ f ≤ 1 - t) :
    Calls Yba.prog 3 #[.int .u8 a0, .int .u16 a1, .int .u16 a2, .int .u16 a3] w fun e w' => e = .returned (.bool true) ∧ Grown w w' := by
  have hop : Hid (IsOp 4) := by simp [Hid, IsOp]
  have PK : Hid (knownOf 4 1 t f = sameTo 4 1 t (1 - t - f).toNat) := plain_known 4 1 t f hop.out (fun _ => rfl) htt.1 hff.1 (by omega)
  have PV : Hid (knownOf 4 1 t f = true → vOf 4 t f = holdsB 4 1 t) := plain_value 4 1 t f hop.out (fun _ => rfl) htt.1 hff.1 (by omega)
  go_enter Yba.func3, Yba.ntmps3
  go_wp2_with (first
    | (go_at_call 5; refine (value_any 4 _ 1 t f _ hop.out (by simp) (by simp) (by omega) (by omega)).mono ?_; rintro e w5 ⟨rfl, hg⟩)
    | (go_at_call 6; refine (holds_any 4 1 t _ hop.out).mono ?_; rintro e w6 ⟨rfl, hw6⟩; rw [hw6]; clear hw6))
  have hg' : Grown w w5 := hg w (by apply Grown.alloc; exact Grown.refl _)
  clear hg
  generalize hH : holdsB 4 1 t = first at *
  have HH : Hid (holdsB 4 1 t = first) := hH
  clear hH
  generalize hK : knownOf 4 1 t f = known at *
  generalize hV : vOf 4 t f = v at *
  clear hK hV
  go_loop [18, 19] (fun vs vk => ∃ k : Nat, (k : Int) ≤ 1 - t - f ∧ vk = .int .i64 (k + 1) ∧ vs = .bool (sameTo 4 1 t k)) (fun _ vk => (1 - t - f + 1).toNat - (intOf vk).toNat)
  case atStart => exact ⟨0, by omega, rfl, rfl⟩
  case round =>
    obtain ⟨k, hk, rfl, rfl⟩ := hrel
    by_cases hlt : (k : Int) < 1 - t - f
    · have HS : Hid (sameTo 4 1 t (k + 1) = (sameTo 4 1 t k && (holdsB 4 1 (t + ((k : Int) + 1)) == first))) := by rw [← HH.out]; rfl
      generalize hX : holdsB 4 1 (t + ((k : Int) + 1)) = X at *
      have HX : Hid (holdsB 4 1 (t + ((k : Int) + 1)) = X) := hX
      clear hX
      cases first <;> cases X
      all_goals
        go_wp2_with (go_at_call 6; refine (holds_any 4 1 (t + ((k : Int) + 1)) _ hop.out).mono ?_; rw [HX.out]; rintro e w6 ⟨rfl, hw6⟩; rw [hw6]; clear hw6)
        go_round
        case rel => exact ⟨k + 1, by omega, by go_num, by rw [HS.out]; simp⟩
        case measure => simp [intOf]; omega
    · have hkk : (1 - t - f).toNat = k := by omega
      have PK2 : sameTo 4 1 t k = known := by rw [PK.out, hkk]
      rw [PK2]
      cases known with
      | false =>
        go_wp2
        go_ret
        exact ⟨rfl, hg'⟩
      | true =>
        have hv := PV.out rfl
        subst hv
        cases v <;>
        · go_wp2
          go_ret
          exact ⟨rfl, hg'⟩
set_option maxHeartbeats 800000 in
theorem walk5 (a0 a1 a2 a3 n t f : Int) (w1 : 0 ≤ a1 ∧ a1 ≤ 65535) (w2 : 0 ≤ a2 ∧ a2 ≤ 65535) (w3 : 0 ≤ a3 ∧ a3 ≤ 65535) (w : World) (h0 : a0.tmod 4 = 3) (hn : a1.tmod 300 = n) (hnn : 0 ≤ n ∧ n < 300) (ht : a2.tmod (n + 1) = t) (hf : a3.tmod (n - t + 1) = f) (htt : 0 ≤ t ∧ t ≤ n) (hff : 0 ≤ f ∧ f ≤ n - t) :
    Calls Yba.prog 3 #[.int .u8 a0, .int .u16 a1, .int .u16 a2, .int .u16 a3] w fun e w' => e = .returned (.bool true) ∧ Grown w w' := by
  have hop : Hid (IsOp 5) := by simp [Hid, IsOp]
  have PK : Hid (knownOf 5 n t f = sameTo 5 n t (n - t - f).toNat) := plain_known 5 n t f hop.out (by simp) htt.1 hff.1 (by omega)
  have PV : Hid (knownOf 5 n t f = true → vOf 5 t f = holdsB 5 n t) := plain_value 5 n t f hop.out (by simp) htt.1 hff.1 (by omega)
  go_enter Yba.func3, Yba.ntmps3
  go_wp2_with (first
    | (go_at_call 5; refine (value_any 5 _ n t f _ hop.out (by simp) (by simp) (by omega) (by omega)).mono ?_; rintro e w5 ⟨rfl, hg⟩)
    | (go_at_call 6; refine (holds_any 5 n t _ hop.out).mono ?_; rintro e w6 ⟨rfl, hw6⟩; rw [hw6]; clear hw6))
  have hg' : Grown w w5 := hg w (by apply Grown.alloc; exact Grown.refl _)
  clear hg
  generalize hH : holdsB 5 n t = first at *
  have HH : Hid (holdsB 5 n t = first) := hH
  clear hH
  generalize hK : knownOf 5 n t f = known at *
  generalize hV : vOf 5 t f = v at *
  clear hK hV
  go_loop [18, 19] (fun vs vk => ∃ k : Nat, (k : Int) ≤ n - t - f ∧ vk = .int .i64 (k + 1) ∧ vs = .bool (sameTo 5 n t k)) (fun _ vk => (n - t - f + 1).toNat - (intOf vk).toNat)
  case atStart => exact ⟨0, by omega, rfl, rfl⟩
  case round =>
    obtain ⟨k, hk, rfl, rfl⟩ := hrel
    by_cases hlt : (k : Int) < n - t - f
    · have HS : Hid (sameTo 5 n t (k + 1) = (sameTo 5 n t k && (holdsB 5 n (t + ((k : Int) + 1)) == first))) := by rw [← HH.out]; rfl
      generalize hX : holdsB 5 n (t + ((k : Int) + 1)) = X at *
      have HX : Hid (holdsB 5 n (t + ((k : Int) + 1)) = X) := hX
      clear hX
      cases first <;> cases X
      all_goals
        go_wp2_with (go_at_call 6; refine (holds_any 5 n (t + ((k : Int) + 1)) _ hop.out).mono ?_; rw [HX.out]; rintro e w6 ⟨rfl, hw6⟩; rw [hw6]; clear hw6)
        go_round
        case rel => exact ⟨k + 1, by omega, by go_num, by rw [HS.out]; simp⟩
        case measure => simp [intOf]; omega
    · have hkk : (n - t - f).toNat = k := by omega
      have PK2 : sameTo 5 n t k = known := by rw [PK.out, hkk]
      rw [PK2]
      cases known with
      | false =>
        go_wp2
        go_ret
        exact ⟨rfl, hg'⟩
      | true =>
        have hv := PV.out rfl
        subst hv
        cases v <;>
        · go_wp2
          go_ret
          exact ⟨rfl, hg'⟩

theorem walk (a0 : Int) (a1 : Int) (a2 : Int) (a3 : Int) (w0 : (Lit.int .u8 a0).wf = true) (w1 : (Lit.int .u16 a1).wf = true) (w2 : (Lit.int .u16 a2).wf = true) (w3 : (Lit.int .u16 a3).wf = true) (w : World) :
    Calls Yba.prog 3 #[.int .u8 a0, .int .u16 a1, .int .u16 a2, .int .u16 a3] w fun e w' => e = .returned (.bool true) ∧ Grown w w' := by
  have b0 := bounds_u8 w0
  have b1 := bounds_u16 w1
  have b2 := bounds_u16 w2
  have b3 := bounds_u16 w3
  have m : ∀ a b : Int, 0 ≤ a → 0 < b → 0 ≤ a.tmod b ∧ a.tmod b < b := fun a b ha hb => ⟨Int.tmod_nonneg _ ha, Int.tmod_lt_of_pos _ hb⟩
  have key : ∀ n : Int, 0 ≤ n → 0 ≤ a2.tmod (n + 1) ∧ a2.tmod (n + 1) ≤ n ∧ 0 ≤ a3.tmod (n - a2.tmod (n + 1) + 1) ∧ a3.tmod (n - a2.tmod (n + 1) + 1) ≤ n - a2.tmod (n + 1) := fun n hn => by
    have h1 := m a2 (n + 1) b2.1 (by omega)
    have h2 := m a3 (n - a2.tmod (n + 1) + 1) b3.1 (by omega)
    exact ⟨h1.1, by omega, h2.1, by omega⟩
  have hn := m a1 300 b1.1 (by omega)
  have h4 := m a0 4 b0.1 (by omega)
  have k1 := key 1 (by omega)
  have kn := key (a1.tmod 300) hn.1
  have hc : a0.tmod 4 = 0 ∨ a0.tmod 4 = 1 ∨ a0.tmod 4 = 2 ∨ a0.tmod 4 = 3 := by omega
  rcases hc with hc | hc | hc | hc
  · exact walk2 a0 a1 a2 a3 _ _ _ b1 b2 b3 w hc rfl hn rfl rfl ⟨kn.1, kn.2.1⟩ kn.2.2
  · exact walk3 a0 a1 a2 a3 _ _ _ b1 b2 b3 w hc rfl hn rfl rfl ⟨kn.1, kn.2.1⟩ kn.2.2
  · exact walk4 a0 a1 a2 a3 _ _ b1 b2 b3 w hc _ rfl rfl rfl ⟨k1.1, k1.2.1⟩ k1.2.2
  · exact walk5 a0 a1 a2 a3 _ _ _ b1 b2 b3 w hc rfl hn rfl rfl ⟨kn.1, kn.2.1⟩ kn.2.2
end Go.Proofs.Ybulkakme
