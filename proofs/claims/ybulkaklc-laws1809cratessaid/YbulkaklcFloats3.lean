/-
  The law's numbers: where an operation on floats has an answer that is no NaN.
-/
import Derived.Test.YbulkaklcFloats2
namespace Go.Proofs.Ybulkaklc

/-- No NaN. -/
def OK (b : Nat) : Prop := isN b = false
/-- A number (no infinity). -/
def Num (b : Nat) : Prop := ∃ s m i, Ieee.double.read b = .number s m i
/-- A number that is not nought. -/
def NNum (b : Nat) : Prop := ∃ s m i, Ieee.double.read b = .number s m i ∧ m ≠ 0
theorem NNum.num {b : Nat} (h : NNum b) : Num b := let ⟨s, m, i, h, _⟩ := h; ⟨s, m, i, h⟩
theorem Num.ok {b : Nat} (h : Num b) : OK b := by
  obtain ⟨s, m, i, h⟩ := h
  unfold OK isN
  rw [h]; rfl
theorem Mid.nnum {b : Nat} {lo hi : Int} (h : Mid b lo hi) : NNum b := let ⟨s, m, i, h, hm, _⟩ := h; ⟨s, m, i, h, hm⟩
theorem ok_write_num (s : Bool) (m : Nat) (i : Int) : OK (Ieee.double.write (.number s m i)) := nearest_num s m i
theorem ok_write_inf (s : Bool) : OK (Ieee.double.write (.infinity s)) := by
  cases s
  · unfold OK; decide +kernel
  · unfold OK; decide +kernel

def fsub (x y : Nat) : Nat := (Ieee.double.sub x y).getD 0
def fmul (x y : Nat) : Nat := (Ieee.double.mul x y).getD 0
def fdiv (x y : Nat) : Nat := (Ieee.double.div x y).getD 0
theorem fsub_of {x y r : Nat} (h : Ieee.double.sub x y = some r) : floatBits .sub .f64 x y = some (fsub x y) := by
  have h' : FloatKind.f64.format.sub x y = some r := h
  simp only [floatBits, fsub, h', h, Option.getD]
theorem fmul_of {x y r : Nat} (h : Ieee.double.mul x y = some r) : floatBits .mul .f64 x y = some (fmul x y) := by
  have h' : FloatKind.f64.format.mul x y = some r := h
  simp only [floatBits, fmul, h', h, Option.getD]
theorem fdiv_of {x y r : Nat} (h : Ieee.double.div x y = some r) : floatBits .quo .f64 x y = some (fdiv x y) := by
  have h' : FloatKind.f64.format.div x y = some r := h
  simp only [floatBits, fdiv, h', h, Option.getD]

theorem sub_ok {x y : Nat} (hx : OK x) (hy : Num y) : floatBits .sub .f64 x y = some (fsub x y) ∧ OK (fsub x y) := by
  obtain ⟨t, n, j, hy⟩ := hy
  have key : ∃ r, Ieee.double.sub x y = some r ∧ OK r := by
    unfold Ieee.Format.sub
    rw [hy]
    rcases read_not_nan hx with ⟨s, m, i, hr⟩ | ⟨s, hr⟩
    · rw [hr]; exact ⟨_, rfl, ok_write_num _ _ _⟩
    · rw [hr]; exact ⟨_, rfl, ok_write_inf _⟩
  obtain ⟨r, hr, ho⟩ := key
  exact ⟨fsub_of hr, by unfold fsub; rw [hr]; exact ho⟩
theorem div_ok {x y : Nat} (hx : OK x) (hy : NNum y) : floatBits .quo .f64 x y = some (fdiv x y) ∧ OK (fdiv x y) := by
  obtain ⟨t, n, j, hy, hn⟩ := hy
  have key : ∃ r, Ieee.double.div x y = some r ∧ OK r := by
    unfold Ieee.Format.div
    rw [hy]
    rcases read_not_nan hx with ⟨s, m, i, hr⟩ | ⟨s, hr⟩
    · rw [hr]
      simp only [Ieee.Datum.quotient, hn, if_false, Option.map_some]
      exact ⟨_, rfl, ok_write_num _ _ _⟩
    · rw [hr]; exact ⟨_, rfl, ok_write_inf _⟩
  obtain ⟨r, hr, ho⟩ := key
  exact ⟨fdiv_of hr, by unfold fdiv; rw [hr]; exact ho⟩
theorem mul_num {x y : Nat} (hx : Num x) (hy : Num y) : floatBits .mul .f64 x y = some (fmul x y) ∧ OK (fmul x y) := by
  obtain ⟨t, n, j, hy⟩ := hy
  obtain ⟨s, m, i, hx⟩ := hx
  have key : ∃ r, Ieee.double.mul x y = some r ∧ OK r := by
    unfold Ieee.Format.mul
    rw [hy, hx]
    exact ⟨_, rfl, ok_write_num _ _ _⟩
  obtain ⟨r, hr, ho⟩ := key
  exact ⟨fmul_of hr, by unfold fmul; rw [hr]; exact ho⟩
theorem mul_ok {x y : Nat} (hx : NNum x) (hy : OK y) : floatBits .mul .f64 x y = some (fmul x y) ∧ OK (fmul x y) := by
  obtain ⟨t, n, j, hx, hn⟩ := hx
  have key : ∃ r, Ieee.double.mul x y = some r ∧ OK r := by
    unfold Ieee.Format.mul
    rw [hx]
    rcases read_not_nan hy with ⟨s, m, i, hr⟩ | ⟨s, hr⟩
    · rw [hr]; exact ⟨_, rfl, ok_write_num _ _ _⟩
    · rw [hr]
      simp only [Ieee.Datum.product, hn, if_false, Option.map_some]
      exact ⟨_, rfl, ok_write_inf _⟩
  obtain ⟨r, hr, ho⟩ := key
  exact ⟨fmul_of hr, by unfold fmul; rw [hr]; exact ho⟩

/-- x / 255 and x / 256, of a byte and of one more than a byte. -/
def over255 (n : Int) : Nat := fdiv (floatOfInt .f64 n) 4643176031446892544
def over256 (n : Int) : Nat := fdiv (floatOfInt .f64 n) 4643211215818981376
theorem mid255 : Mid 4643176031446892544 7 7 := by
  have h : Ieee.double.read 4643176031446892544 = .number false 8972014882652160 (-45) := by decide +kernel
  exact ⟨_, _, _, h, by decide, by decide +kernel, by decide +kernel⟩
theorem mid256 : Mid 4643211215818981376 8 8 := by
  have h : Ieee.double.read 4643211215818981376 = .number false 4503599627370496 (-44) := by decide +kernel
  exact ⟨_, _, _, h, by decide, by decide +kernel, by decide +kernel⟩
theorem over255_eq (n : Int) : floatBits .quo .f64 (floatOfInt .f64 n) 4643176031446892544 = some (over255 n) := (div_ok (int_num n) mid255.nnum).1
theorem over256_eq (n : Int) : floatBits .quo .f64 (floatOfInt .f64 n) 4643211215818981376 = some (over256 n) := (div_ok (int_num n) mid256.nnum).1
theorem over255_ok (n : Int) : OK (over255 n) := (div_ok (int_num n) mid255.nnum).2
theorem over255_num (n : Int) (h0 : 0 ≤ n) (h1 : n ≤ 255) : Num (over255 n) := by
  by_cases h : n = 0
  · subst h
    have e : Ieee.double.read (over255 0) = .number false 0 (-1074) := by decide +kernel
    exact ⟨_, _, _, e⟩
  · obtain ⟨r, hr, hm⟩ := div_mid (int_mid n h (by omega) (by omega)) mid255 (by omega) (by omega)
    have : over255 n = r := by unfold over255 fdiv; rw [hr]; rfl
    rw [this]
    exact hm.nnum.num
theorem over256_mid (n : Int) (h0 : 1 ≤ n) (h1 : n ≤ 256) : Mid (over256 n) (-9) 57 := by
  obtain ⟨r, hr, hm⟩ := div_mid (int_mid n (by omega) (by omega) (by omega)) mid256 (by omega) (by omega)
  have : over256 n = r := by unfold over256 fdiv; rw [hr]; rfl
  rw [this]
  exact hm.mono (by omega) (by omega)
theorem money_num (n : Int) (h1 : -9223372036854775808 ≤ n) (h2 : n ≤ 9223372036854775807) : Num (money n) := money_number n h1 (by omega)

/-- What a layer would spend at rate 1. -/
theorem full_eq (sp : Int) (ir : Nat) (hir : Mid ir (-9) 57) (h1 : -9223372036854775808 ≤ sp) (h2 : sp ≤ 9223372036854775807) : floatBits .quo .f64 (money sp) ir = some (fdiv (money sp) ir) := (div_ok (money_num sp h1 h2).ok hir.nnum).1
theorem full_nnum (sp : Int) (ir : Nat) (hir : Mid ir (-9) 57) (h0 : sp ≠ 0) (h1 : -9223372036854775808 ≤ sp) (h2 : sp ≤ 9223372036854775807) : NNum (fdiv (money sp) ir) := by
  obtain ⟨r, hr, hm⟩ := div_mid (money_mid sp h0 h1 (by omega)) hir (by omega) (by omega)
  have : fdiv (money sp) ir = r := by unfold fdiv; rw [hr]; rfl
  rw [this]
  exact hm.nnum

/-- Go's min of 1 and x. -/
def fmin1 (x : Nat) : Nat := match Ieee.double.order 4607182418800017408 x with
  | some .lt => 4607182418800017408
  | some .gt => x
  | some .eq => x
  | none => 0
theorem one_ok : OK 4607182418800017408 := by unfold OK; decide +kernel
theorem zero_ok : OK 0 := by unfold OK; decide +kernel
theorem one_pos : (Ieee.double.read 4607182418800017408).neg = false := by decide +kernel
theorem order_ok {x y : Nat} (hx : OK x) (hy : OK y) : ∃ o, Ieee.double.order x y = some o := by
  unfold Ieee.Format.order
  rcases read_not_nan hx with ⟨s, m, i, hr⟩ | ⟨s, hr⟩ <;> rcases read_not_nan hy with ⟨s', m', i', hr'⟩ | ⟨s', hr'⟩ <;> rw [hr, hr'] <;> exact ⟨_, rfl⟩
theorem min_ok {x : Nat} (hx : OK x) : OK (fmin1 x) := by
  obtain ⟨o, ho⟩ := order_ok one_ok hx
  unfold fmin1
  rw [ho]
  cases o
  · exact one_ok
  · exact hx
  · exact hx
theorem run_min {P : Program} {x : Nat} (hx : OK x) (ats : Array TypeId) (ty : TypeId) (w : World) : (Builtin.min_ ats ty #[.float .f64 4607182418800017408, .float .f64 x]).run P w = .ok (.float .f64 (fmin1 x)) w := by
  obtain ⟨o, ho⟩ := order_ok one_ok hx
  have ho' : FloatKind.f64.format.order 4607182418800017408 x = some o := ho
  have hn : (FloatKind.f64.decode 4607182418800017408).neg = false := one_pos
  unfold fmin1
  rw [ho]
  cases o <;> simp [Builtin.min_, Builtin.min2, ho', hn]
end Go.Proofs.Ybulkaklc
