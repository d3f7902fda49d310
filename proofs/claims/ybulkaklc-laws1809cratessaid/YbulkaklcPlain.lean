/-
  The plain words of 'fill': the walk downward, the lowest paced layer, its trial.
-/
import Derived.Test.YbulkaklcRow
namespace Go.Proofs.Ybulkaklc
open Go.RowKit

def leF (x y : Nat) : Bool := FloatKind.f64.format.order x y == some .lt || FloatKind.f64.format.order x y == some .eq
def gtF (x y : Nat) : Bool := FloatKind.f64.format.order x y == some .gt
def one64 : Nat := 4607182418800017408

section
variable (L : Nat → Ly) (n ir tf t : Nat)
def fullOf (i : Nat) : Nat := fdiv (money (L i).spent) ir
/-- The rate that the walk gives layer i, at what is left and whether all is filled. -/
def outRate (i : Nat) (s : Nat × Bool) : Nat := if s.2 then 0 else if (L i).spent = 0 then over255 (L i).rate else if leF (fullOf L ir i) s.1 then 4607182418800017408 else fdiv s.1 (fullOf L ir i)
def nextS (i : Nat) (s : Nat × Bool) : Nat × Bool := if s.2 then s else if (L i).spent = 0 then s else if leF (fullOf L ir i) s.1 then (fsub s.1 (fullOf L ir i), false) else (s.1, true)
/-- Behind the k topmost layers. -/
def st : Nat → Nat × Bool
  | 0 => (t, false)
  | k + 1 => nextS L ir (n - 1 - k) (st k)
def R1 (i : Nat) : Nat := outRate L ir i (st L n ir t (n - 1 - i))
def trial (i : Nat) : Nat := if (L i).rs = 0 then ir else fmin1 (fdiv (fmul (layOf (L i)).ref (fmul tf t)) (money (L i).rs))
/-- The rates behind k steps of the walk. -/
def rateAt (k i : Nat) : Nat := if n ≤ i + k then R1 L n ir t i else over255 (L i).rate
/-- r is the lowest index of a rate above nought, or -1. -/
def Low (R : Nat → Nat) (n : Nat) (r : Int) : Prop := (r = -1 ∧ ∀ j, j < n → gtF (R j) 0 = false) ∨ ∃ i : Nat, r = i ∧ i < n ∧ gtF (R i) 0 = true ∧ ∀ j, j < i → gtF (R j) 0 = false
/-- The rates at the end. -/
def R2 (r : Int) (i : Nat) : Nat := if 0 < r ∧ (i : Int) = r - 1 ∧ gtF (R1 L n ir t (i + 1)) (trial L ir tf t i) = true then trial L ir tf t i else R1 L n ir t i
def lays (R : Nat → Nat) : Nat → Lay := fun i => { layOf (L i) with rate := R i }
end

theorem Low.uniq {R : Nat → Nat} {n : Nat} {r r' : Int} (h : Low R n r) (h' : Low R n r') : r = r' := by
  rcases h with ⟨rfl, h⟩ | ⟨i, rfl, hi, h1, h2⟩ <;> rcases h' with ⟨rfl, h'⟩ | ⟨i', rfl, hi', h1', h2'⟩
  · rfl
  · rw [h i' hi'] at h1'; cases h1'
  · rw [h' i hi] at h1; cases h1
  · by_cases a : i < i'
    · rw [h2' i a] at h1; cases h1
    · by_cases b : i' < i
      · rw [h2 i' b] at h1'; cases h1'
      · congr 1; omega

/-- What is known of the law's numbers. -/
structure Good (L : Nat → Ly) (n ir tf t : Nat) : Prop where
  rng : ∀ j, j < n → 0 ≤ (L j).rate ∧ (L j).rate ≤ 255 ∧ 0 ≤ (L j).ref ∧ (L j).ref ≤ 255 ∧ -9223372036854775808 ≤ (L j).spent ∧ (L j).spent ≤ 9223372036854775807 ∧ -9223372036854775808 ≤ (L j).rs ∧ (L j).rs ≤ 9223372036854775807
  ir : Mid ir (-9) 57
  tf : Num tf
  t : Num t

section
variable {L : Nat → Ly} {n ir tf t : Nat}
theorem Good.full (h : Good L n ir tf t) {i : Nat} (hi : i < n) : floatBits .quo .f64 (money (L i).spent) ir = some (fullOf L ir i) := by
  obtain ⟨_, _, _, _, h1, h2, _, _⟩ := h.rng i hi
  exact full_eq _ _ h.ir h1 h2
theorem Good.nnum (h : Good L n ir tf t) {i : Nat} (hi : i < n) (h0 : (L i).spent ≠ 0) : NNum (fullOf L ir i) := by
  obtain ⟨_, _, _, _, h1, h2, _, _⟩ := h.rng i hi
  exact full_nnum _ _ h.ir h0 h1 h2
theorem Good.next (h : Good L n ir tf t) {i : Nat} (hi : i < n) {s : Nat × Bool} (hs : OK s.1) : OK (nextS L ir i s).1 := by
  unfold nextS
  split
  · exact hs
  · split
    · exact hs
    · rename_i h0
      split
      · exact (sub_ok hs (h.nnum hi h0).num).2
      · exact hs
theorem Good.st (h : Good L n ir tf t) : ∀ k, k ≤ n → OK (st L n ir t k).1
  | 0, _ => h.t.ok
  | k + 1, hk => h.next (by omega) (Good.st h k (by omega))
theorem Good.out (h : Good L n ir tf t) {i : Nat} (hi : i < n) {s : Nat × Bool} (hs : OK s.1) : OK (outRate L ir i s) := by
  unfold outRate
  split
  · exact zero_ok
  · split
    · exact over255_ok _
    · rename_i h0
      split
      · exact one_ok
      · exact (div_ok hs (h.nnum hi h0)).2
theorem Good.r1 (h : Good L n ir tf t) {i : Nat} (hi : i < n) : OK (R1 L n ir t i) := h.out hi (h.st _ (by omega))
theorem Good.tft (h : Good L n ir tf t) : floatBits .mul .f64 tf t = some (fmul tf t) ∧ OK (fmul tf t) := mul_num h.tf h.t
theorem Good.refm (h : Good L n ir tf t) {i : Nat} (hi : i < n) (h0 : (L i).rs ≠ 0) : floatBits .mul .f64 (layOf (L i)).ref (fmul tf t) = some (fmul (layOf (L i)).ref (fmul tf t)) ∧ OK (fmul (layOf (L i)).ref (fmul tf t)) := by
  obtain ⟨_, _, r1, r2, _⟩ := h.rng i hi
  have e : (layOf (L i)).ref = over256 (1 + (L i).ref) := by simp [layOf, h0]
  rw [e]
  exact mul_ok (over256_mid _ (by omega) (by omega)).nnum h.tft.2
theorem Good.refd (h : Good L n ir tf t) {i : Nat} (hi : i < n) (h0 : (L i).rs ≠ 0) : floatBits .quo .f64 (fmul (layOf (L i)).ref (fmul tf t)) (money (L i).rs) = some (fdiv (fmul (layOf (L i)).ref (fmul tf t)) (money (L i).rs)) ∧ OK (fdiv (fmul (layOf (L i)).ref (fmul tf t)) (money (L i).rs)) := by
  obtain ⟨_, _, _, _, _, _, r1, r2⟩ := h.rng i hi
  exact div_ok (h.refm hi h0).2 (money_mid _ h0 r1 (by omega)).nnum
theorem Good.trialOk (h : Good L n ir tf t) {i : Nat} (hi : i < n) : OK (trial L ir tf t i) := by
  unfold trial
  split
  · exact h.ir.nnum.num.ok
  · rename_i h0
    exact min_ok (h.refd hi h0).2
theorem Good.r2 (h : Good L n ir tf t) {i : Nat} (hi : i < n) (r : Int) : OK (R2 L n ir tf t r i) := by
  unfold R2
  split
  · exact h.trialOk hi
  · exact h.r1 hi
theorem rateAt_zero {i : Nat} (hi : i < n) : rateAt L n ir t 0 i = over255 (L i).rate := by
  unfold rateAt
  rw [if_neg (by omega)]
theorem rateAt_all {i : Nat} : rateAt L n ir t n i = R1 L n ir t i := by
  unfold rateAt
  rw [if_pos (by omega)]
theorem rateAt_step {k i : Nat} (hk : k < n) : rateAt L n ir t (k + 1) i = if i = n - 1 - k then outRate L ir (n - 1 - k) (st L n ir t k) else rateAt L n ir t k i := by
  unfold rateAt
  by_cases e : i = n - 1 - k
  · rw [if_pos e, if_pos (by omega), e]
    unfold R1
    rw [show n - 1 - (n - 1 - k) = k by omega]
  · rw [if_neg e]
    have : n ≤ i + (k + 1) ↔ n ≤ i + k := by omega
    simp only [this]
end
end Go.Proofs.Ybulkaklc
