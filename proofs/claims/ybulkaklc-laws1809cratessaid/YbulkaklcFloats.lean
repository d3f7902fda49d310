/-
  Plain facts on double-precision words: what a NaN does, that a word stands to itself as equal or is a NaN.
-/
import Derived.Test.YbulkaklcRows
import Derived.Laws.FloatArith
namespace Go.Proofs.Ybulkaklc

/-- The word is a NaN. -/
def isN (b : Nat) : Bool := (Ieee.double.read b).isNaN
theorem isN_cases {b : Nat} (h : isN b = true) : ∃ s t, Ieee.double.read b = .nan s t := by
  unfold isN at h
  cases hr : Ieee.double.read b with
  | nan s t => exact ⟨s, t, rfl⟩
  | number s m i => rw [hr] at h; simp [Ieee.Datum.isNaN] at h
  | infinity s => rw [hr] at h; simp [Ieee.Datum.isNaN] at h
theorem order_nan {b : Nat} (h : isN b = true) (c : Nat) : Ieee.double.order b c = none := by
  obtain ⟨s, t, hr⟩ := isN_cases h
  unfold Ieee.Format.order
  rw [hr]; rfl
theorem order_self {b : Nat} (h : isN b = false) : Ieee.double.order b b = some .eq := by
  unfold isN at h
  unfold Ieee.Format.order
  cases hr : Ieee.double.read b with
  | nan s t => rw [hr] at h; simp [Ieee.Datum.isNaN] at h
  | number s m i => simp [Ieee.Datum.order]
  | infinity s => simp [Ieee.Datum.order]
theorem mul_nan {x : Nat} (h : isN x = true) (y : Nat) : Ieee.double.mul x y = none := by
  obtain ⟨s, t, hr⟩ := isN_cases h
  unfold Ieee.Format.mul
  rw [hr]; rfl
theorem div_nan {x : Nat} (h : isN x = true) (y : Nat) : Ieee.double.div x y = none := by
  obtain ⟨s, t, hr⟩ := isN_cases h
  unfold Ieee.Format.div
  rw [hr]; rfl
theorem read_big (neg : Bool) (rung : Nat) (h1 : 9218868437227405312 < rung) (h2 : rung < 9223372036854775808) : isN (Ieee.double.word neg rung) = true := by
  have e1 : Ieee.double.signWeight = 9223372036854775808 := by decide
  have e2 : Ieee.double.binade = 4503599627370496 := by decide
  have e3 : Ieee.double.infRung = 9218868437227405312 := by decide
  have e4 : Ieee.double.word neg rung % Ieee.double.signWeight = rung := by
    unfold Ieee.Format.word; rw [e1]; cases neg <;> simp <;> omega
  unfold isN Ieee.Format.read
  simp only [e4, e2, e3]
  rw [if_neg (by omega), if_neg (by omega), if_neg (by omega)]
  rfl
theorem isN_cut (x y t : Nat) : isN (Question.cut (.nanBits .f64 x y) t) = true := by
  have e : Question.cut (.nanBits .f64 x y) t = Ieee.double.word (t % 2 == 1) (9218868437227405312 + 1 + (t / 2) % (4503599627370496 - 1)) := by
    have e1 : Ieee.double.signWeight = 9223372036854775808 := by decide
    have h2 : t % 2 < 2 := Nat.mod_lt _ (by omega)
    unfold Ieee.Format.word
    rw [e1]
    show (t % 2) * 2 ^ 63 + 0x7ff0000000000000 + 1 + (t / 2) % (2 ^ 52 - 1) = _
    by_cases h : t % 2 = 1
    · rw [h]; simp; omega
    · have h0 : t % 2 = 0 := by omega
      rw [h0]; simp
  rw [e]
  exact read_big _ _ (by omega) (by omega)
/-- A word that a number was written into is no NaN. -/
theorem nearest_num (neg : Bool) (mag : Nat) (place : Int) : isN (Ieee.double.nearest neg mag place) = false := by
  have e1 : Ieee.double.signWeight = 9223372036854775808 := by decide
  have e2 : Ieee.double.binade = 4503599627370496 := by decide
  have e3 : Ieee.double.infRung = 9218868437227405312 := by decide
  have key : ∀ rung, rung ≤ 9218868437227405312 → isN (Ieee.double.word neg rung) = false := fun rung hr => by
    have e4 : Ieee.double.word neg rung % Ieee.double.signWeight = rung := by
      unfold Ieee.Format.word; rw [e1]; cases neg <;> simp <;> omega
    unfold isN Ieee.Format.read
    simp only [e4, e2, e3]
    split
    · rfl
    · split
      · rfl
      · rw [if_pos (by omega)]; rfl
  unfold Ieee.Format.nearest
  split
  · exact key 0 (by omega)
  · exact key _ (by rw [e3]; exact Nat.min_le_right _ _)
theorem int_num (n : Int) : isN (floatOfInt .f64 n) = false := nearest_num _ _ _
theorem read_not_nan {b : Nat} (h : isN b = false) : (∃ s m i, Ieee.double.read b = .number s m i) ∨ ∃ s, Ieee.double.read b = .infinity s := by
  unfold isN at h
  cases hr : Ieee.double.read b with
  | nan s t => rw [hr] at h; simp [Ieee.Datum.isNaN] at h
  | number s m i => exact .inl ⟨s, m, i, rfl⟩
  | infinity s => exact .inr ⟨s, rfl⟩
/-- A number, or an infinity, divided by a number that is not nought: an answer. -/
theorem div_some {x y : Nat} (hx : isN x = false) {s : Bool} {m : Nat} {i : Int} (hy : Ieee.double.read y = .number s m i) (hm : m ≠ 0) : ∃ r, Ieee.double.div x y = some r := by
  unfold Ieee.Format.div
  rw [hy]
  rcases read_not_nan hx with ⟨s', m', i', hr⟩ | ⟨s', hr⟩
  · rw [hr]; simp [Ieee.Datum.quotient, hm]
  · rw [hr]; simp [Ieee.Datum.quotient]
theorem unit_read : Ieee.double.read 4741671816366391296 = .number false 8388608000000000 (-23) := by decide +kernel
theorem div_unit (n : Int) : ∃ r, Ieee.double.div (floatOfInt .f64 n) 4741671816366391296 = some r := div_some (int_num n) unit_read (by decide)

section
variable {P : Program} (w : World)
/-- An operation that has no answer hands back a NaN that the tape picks. -/
theorem run_float_nan (op : BinOp) (hop : op = .mul ∨ op = .quo) (t : TypeId) (x y : Nat) (h : floatBits op .f64 x y = none) : ∃ b, isN b = true ∧ (binOp op t (.float .f64 x) (.float .f64 y)).run P w = .ok (.float .f64 b) w.drew := by
  refine ⟨Question.cut (.nanBits .f64 x y) (w.tape w.drawn (.nanBits .f64 x y)), isN_cut _ _ _, ?_⟩
  rcases hop with rfl | rfl
  · have h' : FloatKind.f64.format.mul x y = none := h
    simp [binOp, Op.floatArith, h']
    intro hf
    simp [Question.forced] at hf
  · have h' : FloatKind.f64.format.div x y = none := h
    simp [binOp, Op.floatArith, h']
    intro hf
    simp [Question.forced] at hf
end

/-- The bits of an amount of money in whole units. -/
def money (n : Int) : Nat := (Ieee.double.div (floatOfInt .f64 n) 4741671816366391296).getD 0
theorem money_eq (n : Int) : floatBits .quo .f64 (floatOfInt .f64 n) 4741671816366391296 = some (money n) := by
  obtain ⟨r, hr⟩ := div_unit n
  have : FloatKind.f64.format.div (floatOfInt .f64 n) 4741671816366391296 = some r := hr
  simp only [floatBits, money, this, hr, Option.getD]
/-- What an operation may hand back: its answer; where it has none, some NaN. -/
def Gives (o : Option Nat) (b : Nat) : Prop := o = some b ∨ (o = none ∧ isN b = true)
/-- Equal, or NaNs both. -/
def Same (a b : Nat) : Prop := a = b ∨ (isN a = true ∧ isN b = true)
theorem Gives.same {o : Option Nat} {a b : Nat} (ha : Gives o a) (hb : Gives o b) : Same a b := by
  rcases ha with ha | ⟨ha, na⟩ <;> rcases hb with hb | ⟨hb, nb⟩
  · rw [ha] at hb; exact .inl (by simpa using hb)
  · rw [ha] at hb; cases hb
  · rw [ha] at hb; cases hb
  · exact .inr ⟨na, nb⟩
theorem gives_nan {op : BinOp} (hop : op = .mul ∨ op = .quo) {x : Nat} (hx : isN x = true) {y b : Nat} (h : Gives (floatBits op .f64 x y) b) : isN b = true := by
  have e : floatBits op .f64 x y = none := by
    rcases hop with rfl | rfl
    · exact mul_nan hx y
    · exact div_nan hx y
  rcases h with h | h
  · rw [e] at h; cases h
  · exact h.2
theorem Same.op {op : BinOp} (hop : op = .mul ∨ op = .quo) {x x' y b b' : Nat} (hs : Same x x') (h : Gives (floatBits op .f64 x y) b) (h' : Gives (floatBits op .f64 x' y) b') : Same b b' := by
  rcases hs with rfl | ⟨h1, h2⟩
  · exact h.same h'
  · exact .inr ⟨gives_nan hop h1 h, gives_nan hop h2 h'⟩
/-- The law's own test for equality of two floats. -/
def feqB (a b : Nat) : Bool := if Ieee.double.order a a = some .eq then Ieee.double.order a b == some .eq else Ieee.double.order b b != some .eq
theorem feq_same {a b : Nat} (h : Same a b) : feqB a b = true := by
  unfold feqB
  rcases h with rfl | ⟨h1, h2⟩
  · split
    · rename_i h; rw [h]; rfl
    · rename_i h; simpa using h
  · rw [order_nan h1, order_nan h2]; rfl
end Go.Proofs.Ybulkaklc
