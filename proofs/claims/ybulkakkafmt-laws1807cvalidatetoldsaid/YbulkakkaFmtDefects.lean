/-
  'zzs1807cdefects': the plain function and the walk.
-/
import Derived.Test.YbulkakkaFmtModel
namespace Go.Proofs.YbulkakkaFmt
open Go.RowKit

/-- The k-th name of a list. -/
def sAt (ss : List ByteArray) (k : Nat) : ByteArray := ss.getD k ByteArray.empty
/-- Some name ahead of the k-th is the k-th. -/
def dupe (ss : List ByteArray) (k : Nat) : Bool := (List.range k).any fun j => decide (sAt ss j = sAt ss k)
/-- One defect, or none, at place k. -/
def badAt (ss : List ByteArray) (k : Nat) : Nat := if isNm (sAt ss k) = true then (if dupe ss k = true then 1 else 0) else 1
/-- The defects among the first k names. -/
def defTo (ss : List ByteArray) : Nat → Nat
  | 0 => 0
  | k + 1 => defTo ss k + badAt ss k
theorem badAt_le (ss : List ByteArray) (k : Nat) : badAt ss k ≤ 1 := by unfold badAt; split <;> (try split) <;> omega
theorem defTo_le (ss : List ByteArray) (k : Nat) : defTo ss k ≤ k := by
  induction k with
  | zero => exact Nat.le_refl _
  | succ k ih => have := badAt_le ss k; simp only [defTo]; omega
theorem badAt_no {ss : List ByteArray} {k : Nat} (h : isNm (sAt ss k) = false) : badAt ss k = 1 := by simp [badAt, h]
theorem dupe_t {ss : List ByteArray} {k : Nat} (j : Nat) (hj : j < k) (h : sAt ss j = sAt ss k) : dupe ss k = true := by
  unfold dupe; rw [List.any_eq_true]; exact ⟨j, List.mem_range.2 hj, by simp [h]⟩
theorem dupe_f {ss : List ByteArray} {k : Nat} (h : ∀ j, j < k → sAt ss j ≠ sAt ss k) : dupe ss k = false := by
  unfold dupe; rw [List.any_eq_false]; intro j hj; have := h j (List.mem_range.1 hj); simp [this]
theorem badAt_dup {ss : List ByteArray} {k : Nat} (h : isNm (sAt ss k) = true) (j : Nat) (hj : j < k) (e : sAt ss j = sAt ss k) : badAt ss k = 1 := by simp [badAt, h, dupe_t j hj e]
theorem badAt_ok {ss : List ByteArray} {k : Nat} (h : isNm (sAt ss k) = true) (e : ∀ j, j < k → sAt ss j ≠ sAt ss k) : badAt ss k = 0 := by simp [badAt, h, dupe_f e]
theorem ret_int {k : IntKind} {a b : Int} (h : a = b) : Ending.returned (.int k a) = .returned (.int k b) := by rw [h]

theorem str_eq {a b : ByteArray} (h : (a.toList == b.toList) = true) : a = b := by
  rw [beq_iff_eq, ByteArray.toList_eq, ByteArray.toList_eq] at h
  exact WideShapes.bytes_inj h
theorem str_ne {a b : ByteArray} (h : (a.toList == b.toList) = false) : a ≠ b := fun e => by rw [e] at h; simp at h
theorem below_drewN {B : Nat} {a w : World} (h : Below B a w) (n : Nat) : Below B a (w.drewN n) := ⟨h.os, h.tape, h.output, h.size, h.block⟩

set_option maxHeartbeats 800000 in
theorem defects_any (a0 : Option Addr) (len cap : Nat) (ss : List ByteArray) (w : World) (hl : ss.length = len) (hlen : len ≤ 4096) (hss : Hid (∀ k, (sAt ss k).size ≤ maxLen))
    (hrow : Hid (∀ k, k < len → ∃ b off, a0 = some ⟨b, off, none⟩ ∧ b < w.heap.size ∧ ∀ j, j < len → w.cell? ⟨b, off + j, none⟩ = some (.string (sAt ss j)))) :
    Calls Ybaf.prog 10 #[.slice a0 len cap] w fun e w' => e = .returned (.int .i64 (defTo ss len)) ∧ Below w.heap.size w w' := by
  go_enter Ybaf.func10, Ybaf.ntmps10
  go_wp2
  go_loopw [3, 4] (fun vn vi wr => ∃ k : Nat, k ≤ len ∧ vi = .int .i64 k ∧ vn = .int .i64 (defTo ss k) ∧ Below w.heap.size w wr) (fun _ vi _ => len - (intOf vi).toNat)
  case atStart => exact ⟨0, Nat.zero_le _, rfl, rfl, Below.refl _ _⟩
  case round =>
    obtain ⟨k, hk, rfl, rfl, hnx⟩ := hrel
    have hdl := defTo_le ss k
    by_cases hlt : k < len
    · obtain ⟨b, off, rfl, hbw, hc⟩ := hrow.out k hlt
      have hcr : ∀ j, j < len → wr.cell? ⟨b, off + j, none⟩ = some (.string (sAt ss j)) := fun j hj => (hnx.cell (by exact hbw)).trans (hc j hj)
      have hck := hcr k hlt
      have HC : Hid (∀ j, j < len → wr.cell? ⟨b, off + j, none⟩ = some (.string (sAt ss j))) := hcr
      clear hc hcr
      cases hnm : isNm (sAt ss k) with
      | false =>
        have HB : Hid (defTo ss (k + 1) = defTo ss k + 1) := by simp only [Hid, defTo, badAt_no hnm]
        go_wp2_with (go_at_call 17; refine (isname_any _ (hss.out k) _).mono ?_; rintro e w' ⟨rfl, hw⟩; rw [hw, hnm]; clear hw)
        go_roundw
        case rel => exact ⟨k + 1, by omega, by go_num, by rw [HB.out]; go_num, hnx⟩
        case measure => simp [intOf]; omega
      | true =>
        have HN : Hid (isNm (sAt ss k) = true) := hnm
        go_wp2_with (go_at_call 17; refine (isname_any _ (hss.out k) _).mono ?_; rintro e w' ⟨rfl, hw⟩; rw [hw, hnm]; clear hw)
        clear hnm
        obtain ⟨wo, rfl⟩ : ∃ wo : World, wo = wr := ⟨_, rfl⟩
        go_loopw [3, 5] (fun vn vj wi => ∃ j : Nat, j ≤ k ∧ vn = .int .i64 (defTo ss k) ∧ vj = .int .i64 j ∧ Hid (∀ t, t < j → sAt ss t ≠ sAt ss k) ∧ Below w.heap.size w wi) (fun _ vj _ => k - (intOf vj).toNat)
        case atStart => exact ⟨0, Nat.zero_le _, rfl, rfl, fun j hj => absurd hj (Nat.not_lt_zero j), hnx⟩
        case round =>
          obtain ⟨j, hj, rfl, rfl, HJ, hni⟩ := hrel
          by_cases hjk : j < k
          · have hjl : j < len := by omega
            have c1 : wr.cell? ⟨b, off + j, none⟩ = some (.string (sAt ss j)) := (hni.cell (by exact hbw)).trans ((hnx.cell (by exact hbw)).symm.trans (HC.out j hjl))
            have c2 : wr.cell? ⟨b, off + k, none⟩ = some (.string (sAt ss k)) := (hni.cell (by exact hbw)).trans ((hnx.cell (by exact hbw)).symm.trans (HC.out k hlt))
            clear hck
            have i1 : (j : Int) < (len : Int) := by omega
            have i2 : (k : Int) < (len : Int) := by omega
            go_wp2
            go_quiet (fail)
            go_wp2
            · have he : sAt ss j = sAt ss k := str_eq (by assumption)
              have HB : Hid (defTo ss (k + 1) = defTo ss k + 1) := by simp only [Hid, defTo, badAt_dup HN.out j hjk he]
              go_roundw
              case rel => exact ⟨k + 1, by omega, by go_num, by rw [HB.out]; go_num, below_drewN hni _⟩
              case measure => simp [intOf]; omega
            · have he : sAt ss j ≠ sAt ss k := str_ne (by assumption)
              have HJ' : Hid (∀ t, t < j + 1 → sAt ss t ≠ sAt ss k) := fun t ht => by
                by_cases e : t = j
                · rw [e]; exact he
                · exact HJ.out t (by omega)
              go_roundw
              case rel => exact ⟨j + 1, by omega, rfl, by go_num, HJ', below_drewN hni _⟩
              case measure => simp [intOf]; omega
          · obtain rfl : j = k := by omega
            have HB : Hid (defTo ss (j + 1) = defTo ss j) := by simp only [Hid, defTo, badAt_ok HN.out HJ.out]; rfl
            go_wp2
            go_roundw
            case rel => exact ⟨j + 1, by omega, by go_num, by rw [HB.out], hni⟩
            case measure => simp [intOf]; omega
    · obtain rfl : k = len := by omega
      go_wp2
      go_ret
      exact ⟨rfl, hnx⟩
end Go.Proofs.YbulkakkaFmt
