/-
  The names of the law's alphabet: 'isLowerWord', 'isName', 'zzs1807cisname', 'zzs1807cname': the plain functions and the walks.
-/
import Derived.Test.YbulkakkaFmtRows
import Derived.Test.YbulkakkaFmtShelf
import Derived.WalkKit
import Derived.ProofKit
import Derived.Laws.IdiomStrings
namespace Go.Proofs.YbulkakkaFmt
open Go.RowKit

/-- One byte that a lower word may bear. -/
def okB (c : Int) : Bool := decide ((97 ≤ c ∧ c ≤ 122) ∨ (48 ≤ c ∧ c ≤ 57) ∨ c = 95)
theorem okB_t {c : Int} (h : (97 ≤ c ∧ c ≤ 122) ∨ (48 ≤ c ∧ c ≤ 57) ∨ c = 95) : okB c = true := by simp [okB, h]
theorem okB_f {c : Int} (h : ¬ ((97 ≤ c ∧ c ≤ 122) ∨ (48 ≤ c ∧ c ≤ 57) ∨ c = 95)) : okB c = false := by simp only [okB, h, decide_false]

theorem ret_bool {a b : Bool} (h : a = b) : Ending.returned (.bool a) = .returned (.bool b) := by rw [h]

/-- Byte k of a string, as a number. -/
def bAt (s : ByteArray) (k : Nat) : Int := ((s.data.toList.getD k 0).toNat : Int)
/-- Every byte of s is one that a lower word may bear. -/
def lowB (s : ByteArray) : Bool := s.data.toList.all fun b => okB (b.toNat : Int)
theorem lowB_t {s : ByteArray} (h : ∀ j, j < s.size → okB (bAt s j) = true) : lowB s = true := by
  unfold lowB
  rw [List.all_eq_true]
  intro b hb
  obtain ⟨j, hj, rfl⟩ := List.getElem_of_mem hb
  have h1 := h j (by simpa using hj)
  simpa [bAt, List.getD_eq_getElem?_getD, List.getElem?_eq_getElem hj] using h1
theorem lowB_f {s : ByteArray} (j : Nat) (hj : j < s.size) (h : okB (bAt s j) = false) : lowB s = false := by
  unfold lowB
  rw [List.all_eq_false]
  have hj' : j < s.data.toList.length := by simpa using hj
  refine ⟨s.data.toList[j], List.getElem_mem hj', ?_⟩
  simpa [bAt, List.getD_eq_getElem?_getD, List.getElem?_eq_getElem hj'] using h

theorem conv_bytes (s : ByteArray) (w : World) : ∃ (C : Array Value) (m : Nat × Nat) (cap : Nat),
    (convert 9 37 (.string s)).run Ybaf.prog w = .ok (.slice (some ⟨w.heap.size, 0, none⟩) s.size cap) (w.drew.alloc (.cells C 5 m)) ∧ ∀ j, j < s.size → C[j]? = some (.int .u8 (bAt s j)) := by
  refine ⟨_, _, _, run_bytes_of_string (P := Ybaf.prog) w 9 37 5 s Ybaf.underlying9 Ybaf.underlying37 Ybaf.underlying5, fun j hj => ?_⟩
  rw [bytesRow_at s _ j hj]
  simp [bAt, List.getD_eq_getElem?_getD, hj]

set_option maxHeartbeats 400000 in
/-- isLowerWord. -/
theorem low_any (s : ByteArray) (hs : s.size ≤ maxLen) (w : World) :
    Calls Ybaf.prog 28 #[.string s] w fun e w' => e = .returned (.bool (lowB s)) ∧ Below w.heap.size w w' := by
  unfold maxLen at hs
  obtain ⟨C, m, cap, hconv, hC⟩ := conv_bytes s w
  have hcell : ∀ j, j < s.size → (w.alloc (.cells C 5 m)).cell? ⟨w.heap.size, j, none⟩ = some (.int .u8 (bAt s j)) := fun j hj => by
    rw [World.cell?_alloc_mark, hC j hj]
  clear hC
  have hbel : Below w.heap.size w (w.alloc (.cells C 5 m)).drew := ((Below.refl _ _).alloc (Nat.le_refl _) _).drew
  go_enter Ybaf.func28, Ybaf.ntmps28
  go_wp2
  go_loop [8] (fun i => ∃ k : Nat, k ≤ s.size ∧ i = .int .i64 k ∧ ∀ j, j < k → okB (bAt s j) = true) (fun i => s.size - (intOf i).toNat)
  case atStart => exact ⟨0, Nat.zero_le _, rfl, fun j hj => absurd hj (Nat.not_lt_zero j)⟩
  case round =>
    obtain ⟨k, hk, rfl, hall⟩ := hrel
    have HA : Hid (∀ j, j < k → okB (bAt s j) = true) := hall
    clear hall
    by_cases hlt : k < s.size
    · have hck := hcell k hlt
      clear hcell
      have HT : Hid ((97 ≤ bAt s k ∧ bAt s k ≤ 122) ∨ (48 ≤ bAt s k ∧ bAt s k ≤ 57) ∨ bAt s k = 95 → okB (bAt s k) = true) := okB_t
      have HF : Hid (¬ ((97 ≤ bAt s k ∧ bAt s k ≤ 122) ∨ (48 ≤ bAt s k ∧ bAt s k ≤ 57) ∨ bAt s k = 95) → lowB s = false) := fun h => lowB_f k hlt (okB_f h)
      have HR : Hid (okB (bAt s k) = true → ∀ j, j < k + 1 → okB (bAt s j) = true) := fun h j hj => by
        by_cases e : j = k
        · rw [e]; exact h
        · exact HA.out j (by omega)
      by_cases e95 : bAt s k = 95
      · have e96 : (bAt s k == 95) = true := beq_iff_eq.2 e95
        have HT' : Hid (okB (bAt s k) = true) := HT.out (by omega)
        clear e95
        have l1 : 48 ≤ bAt s k := by simp at e96; omega
        have l2 : bAt s k < 97 := by simp at e96; omega
        have l3 : 57 < bAt s k := by simp at e96; omega
        go_wp2
        go_round
        case rel => exact ⟨k + 1, by omega, by go_num, HR.out HT'.out⟩
        case measure => simp [intOf]; omega
      · have e96 : (bAt s k == 95) = false := beq_eq_false_iff_ne.2 e95
        have E95 : Hid (¬ bAt s k = 95) := e95
        clear e95
        go_wp2
        all_goals have e95 := E95.out
        all_goals first
          | (go_ret; exact ⟨ret_bool (HF.out (by omega)).symm, hbel⟩)
          | (go_round
             case rel => exact ⟨k + 1, by omega, by go_num, HR.out (HT.out (by first | omega | (simp at *; omega)))⟩
             case measure => simp [intOf]; omega)
    · clear hcell
      go_wp2
      go_ret
      exact ⟨ret_bool (lowB_t fun j hj => HA.out j (by omega)).symm, hbel⟩

/-- s is a name. -/
def isNm (s : ByteArray) : Bool := decide (0 < s.size ∧ s.size ≤ 64 ∧ 97 ≤ bAt s 0 ∧ bAt s 0 ≤ 122) && lowB s
theorem isNm_short {s : ByteArray} (h : ¬ (0 < s.size ∧ s.size ≤ 64)) : isNm s = false := by
  have : ¬ (0 < s.size ∧ s.size ≤ 64 ∧ 97 ≤ bAt s 0 ∧ bAt s 0 ≤ 122) := fun x => h ⟨x.1, x.2.1⟩
  unfold isNm; rw [decide_eq_false this]; rfl
theorem isNm_head {s : ByteArray} (h : ¬ (97 ≤ bAt s 0 ∧ bAt s 0 ≤ 122)) : isNm s = false := by
  have : ¬ (0 < s.size ∧ s.size ≤ 64 ∧ 97 ≤ bAt s 0 ∧ bAt s 0 ≤ 122) := fun x => h x.2.2
  unfold isNm; rw [decide_eq_false this]; rfl
theorem isNm_low {s : ByteArray} (h1 : 0 < s.size) (h2 : s.size ≤ 64) (h3 : 97 ≤ bAt s 0) (h4 : bAt s 0 ≤ 122) : isNm s = lowB s := by
  unfold isNm; rw [decide_eq_true ⟨h1, h2, h3, h4⟩]; rfl
theorem at_bAt (s : ByteArray) (k : Nat) (h : k < s.size) : ((s[k]'h).toNat : Int) = bAt s k := by
  simp only [bAt, List.getD_eq_getElem?_getD]
  rw [List.getElem?_eq_getElem (by simpa using h)]
  rfl

set_option maxHeartbeats 400000 in
/-- isName. -/
theorem isName_any (s : ByteArray) (hs : s.size ≤ maxLen) (w : World) :
    Calls Ybaf.prog 18 #[.string s] w fun e w' => e = .returned (.bool (isNm s)) ∧ Below w.heap.size w w' := by
  have hs' : Hid (s.size ≤ maxLen) := hs
  unfold maxLen at hs
  by_cases h1 : 0 < s.size
  · have hb : ((s[0]'h1).toNat : Int) = bAt s 0 := at_bAt s 0 h1
    by_cases h2 : s.size ≤ 64
    · by_cases h3 : 97 ≤ bAt s 0
      · by_cases h4 : bAt s 0 ≤ 122
        · have H : Hid (isNm s = lowB s) := isNm_low h1 h2 h3 h4
          go_enter Ybaf.func18, Ybaf.ntmps18
          go_wp2_with (go_at_call 28; refine (low_any s hs'.out _).mono ?_; rintro e w' ⟨rfl, hb⟩)
          go_ret
          exact ⟨ret_bool H.out.symm, hb⟩
        · have H : Hid (isNm s = false) := isNm_head (by omega)
          go_enter Ybaf.func18, Ybaf.ntmps18
          go_wp2
          go_ret
          exact ⟨ret_bool H.out.symm, Below.refl _ _⟩
      · have H : Hid (isNm s = false) := isNm_head (by omega)
        go_enter Ybaf.func18, Ybaf.ntmps18
        go_wp2
        go_ret
        exact ⟨ret_bool H.out.symm, Below.refl _ _⟩
    · have H : Hid (isNm s = false) := isNm_short (by omega)
      go_enter Ybaf.func18, Ybaf.ntmps18
      go_wp2
      go_ret
      exact ⟨ret_bool H.out.symm, Below.refl _ _⟩
  · have H : Hid (isNm s = false) := isNm_short (by omega)
    go_enter Ybaf.func18, Ybaf.ntmps18
    go_wp2
    go_ret
    exact ⟨ret_bool H.out.symm, Below.refl _ _⟩
end Go.Proofs.YbulkakkaFmt
