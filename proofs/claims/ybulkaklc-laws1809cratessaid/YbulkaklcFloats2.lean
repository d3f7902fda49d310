/-
  Plain facts on double-precision words, more: a number of middling size that is written is a number that is not nought.
-/
import Derived.Test.YbulkaklcFloats
namespace Go.Proofs.Ybulkaklc

/-- The word stands for a number that is not nought and whose head digit has a place from lo to hi. -/
def Mid (b : Nat) (lo hi : Int) : Prop := ∃ s m i, Ieee.double.read b = .number s m i ∧ m ≠ 0 ∧ lo ≤ i + (m.log2 : Int) ∧ i + (m.log2 : Int) ≤ hi

theorem log2_range {m k : Nat} (h1 : 2 ^ k ≤ m) (h2 : m < 2 ^ (k + 1)) : m.log2 = k := by
  have hm : m ≠ 0 := by have := Nat.two_pow_pos k; omega
  have a := (Nat.le_log2 hm).2 h1
  have b := (Nat.log2_lt hm).2 h2
  omega

theorem word_mod (neg : Bool) (rung : Nat) (h : rung < 9223372036854775808) : Ieee.double.word neg rung % 9223372036854775808 = rung := by
  have e1 : Ieee.double.signWeight = 9223372036854775808 := by decide
  unfold Ieee.Format.word; rw [e1]; cases neg <;> simp <;> omega

/-- Reading a rung among the normal numbers. -/
theorem read_rung (neg : Bool) (q r : Nat) (hq1 : 1 ≤ q) (hq2 : q ≤ 2046) (hr : r < 4503599627370496) :
    ∃ s, Ieee.double.read (Ieee.double.word neg (q * 4503599627370496 + r)) = .number s (4503599627370496 + r) (-1074 + ((q - 1 : Nat) : Int)) := by
  have e1 : Ieee.double.signWeight = 9223372036854775808 := by decide
  have e2 : Ieee.double.binade = 4503599627370496 := by decide
  have e3 : Ieee.double.infRung = 9218868437227405312 := by decide
  have e5 : Ieee.double.leastPlace = -1074 := by decide
  have e4 : Ieee.double.word neg (q * 4503599627370496 + r) % Ieee.double.signWeight = q * 4503599627370496 + r := by rw [e1]; exact word_mod _ _ (by omega)
  unfold Ieee.Format.read
  simp only [e4, e2, e3, e5]
  rw [if_neg (by omega), if_pos (by omega)]
  have h1 : (q * 4503599627370496 + r) % 4503599627370496 = r := by omega
  have h2 : (q * 4503599627370496 + r) / 4503599627370496 = q := by omega
  rw [h1, h2]
  exact ⟨_, rfl⟩

theorem mid_of_rung (neg : Bool) (q r : Nat) (hq1 : 1 ≤ q) (hq2 : q ≤ 2046) (hr : r < 4503599627370496) (e : Int) (he : e = (q : Int) - 1023) : Mid (Ieee.double.word neg (q * 4503599627370496 + r)) e e := by
  obtain ⟨s, hs⟩ := read_rung neg q r hq1 hq2 hr
  have hl : (4503599627370496 + r).log2 = 52 := log2_range (by omega) (by omega)
  refine ⟨s, _, _, hs, by omega, ?_, ?_⟩ <;> rw [hl] <;> omega

theorem Mid.mono {b : Nat} {lo hi lo' hi' : Int} (h : Mid b lo hi) (h1 : lo' ≤ lo) (h2 : hi ≤ hi') : Mid b lo' hi' := by
  obtain ⟨s, m, i, a, b, c, d⟩ := h
  exact ⟨s, m, i, a, b, by omega, by omega⟩

/-- What the cut gives, between two powers of two. -/
theorem cut_range (neg : Bool) (mag : Nat) (hm : mag ≠ 0) (drop : Nat) (hd : drop = mag.log2 - 52) (h52 : 52 ≤ mag.log2) :
    4503599627370496 ≤ Ieee.Toward.even.cut neg mag drop ∧ Ieee.Toward.even.cut neg mag drop ≤ 9007199254740992 := by
  unfold Ieee.Toward.cut
  have hg : 1 <<< min drop (mag.log2 + 2) = 2 ^ drop := by
    rw [Nat.shiftLeft_eq, Nat.one_mul, Nat.min_eq_left (by omega)]
  simp only [hg]
  have hlo : 2 ^ mag.log2 ≤ mag := (Nat.le_log2 hm).1 (Nat.le_refl _)
  have hhi : mag < 2 ^ (mag.log2 + 1) := Nat.lt_log2_self
  have hsplit : (2 : Nat) ^ mag.log2 = 2 ^ 52 * 2 ^ drop := by rw [← Nat.pow_add]; congr 1; omega
  have hsplit' : (2 : Nat) ^ (mag.log2 + 1) = 2 ^ 53 * 2 ^ drop := by rw [← Nat.pow_add]; congr 1; omega
  have hpos : 0 < 2 ^ drop := Nat.two_pow_pos _
  have h1 : 2 ^ 52 ≤ mag / 2 ^ drop := (Nat.le_div_iff_mul_le hpos).2 (by rw [← hsplit]; exact hlo)
  have h2 : mag / 2 ^ drop < 2 ^ 53 := (Nat.div_lt_iff_lt_mul hpos).2 (by rw [← hsplit']; exact hhi)
  have hb : ∀ x : Bool, x.toNat ≤ 1 := fun x => by cases x <;> simp
  refine ⟨Nat.le_trans h1 (Nat.le_add_right _ _), ?_⟩
  have := hb (decide (2 ^ drop < 2 * (mag % 2 ^ drop)) || (2 ^ drop == 2 * (mag % 2 ^ drop) && mag / 2 ^ drop % 2 == 1))
  omega

theorem add_two (q : Nat) : q * 4503599627370496 + 9007199254740992 = (q + 2) * 4503599627370496 + 0 := by omega
theorem add_one (q kept : Nat) (h : 4503599627370496 ≤ kept) : q * 4503599627370496 + kept = (q + 1) * 4503599627370496 + (kept - 4503599627370496) := by omega
theorem below_inf (q kept : Nat) (hq : q ≤ 2022) (h : kept ≤ 9007199254740992) : q * 4503599627370496 + kept ≤ 9218868437227405312 := by omega
theorem nearest_end (neg : Bool) (q kept : Nat) (e : Int) (hq : e + 1022 = (q : Int)) (hq1 : 1 ≤ q) (hq2 : q ≤ 2022) (k1 : 4503599627370496 ≤ kept) (k2 : kept ≤ 9007199254740992) :
    Mid (Ieee.double.word neg (min (q * 4503599627370496 + kept) 9218868437227405312)) e (e + 1) := by
  rw [Nat.min_eq_left (below_inf q kept hq2 k2)]
  by_cases hk53 : kept = 9007199254740992
  · rw [hk53, add_two]
    exact (mid_of_rung neg (q + 2) 0 (by omega) (by omega) (by decide) (e + 1) (by omega)).mono (by omega) (by omega)
  · rw [add_one q kept k1]
    exact (mid_of_rung neg (q + 1) _ (by omega) (by omega) (by omega) e (by omega)).mono (by omega) (by omega)

/-- A number that is not nought, of middling size, written: it is such a number again. -/
theorem nearest_mid (neg : Bool) (mag : Nat) (place : Int) (hm : mag ≠ 0) (e : Int) (he : e = place + (mag.log2 : Int)) (h1 : -1000 ≤ e) (h2 : e ≤ 1000) : Mid (Ieee.double.nearest neg mag place) e (e + 1) := by
  have e2 : Ieee.double.binade = 4503599627370496 := by decide
  have e3 : Ieee.double.infRung = 9218868437227405312 := by decide
  have e5 : Ieee.double.leastPlace = -1074 := by decide
  have e6 : Ieee.double.fractionBits = 52 := by decide
  have hlast : max (place + (mag.log2 : Int) - ((52 : Nat) : Int)) (-1074) = e - 52 := by rw [← he]; omega
  have hkept : ∃ kept, Ieee.Toward.even.cut neg (mag <<< (place - (e - 52)).toNat) ((e - 52) - place).toNat = kept ∧ 4503599627370496 ≤ kept ∧ kept ≤ 9007199254740992 := by
    refine ⟨_, rfl, ?_⟩
    by_cases h52 : 52 ≤ mag.log2
    · have hs : (place - (e - 52)).toNat = 0 := by omega
      rw [hs, Nat.shiftLeft_zero]
      exact cut_range neg mag hm _ (by omega) h52
    · have hs : (place - (e - 52)).toNat = 52 - mag.log2 := by omega
      have hd : ((e - 52) - place).toNat = 0 := by omega
      rw [hs, hd]
      have hlo : 2 ^ mag.log2 ≤ mag := (Nat.le_log2 hm).1 (Nat.le_refl _)
      have hhi : mag < 2 ^ (mag.log2 + 1) := Nat.lt_log2_self
      have hp : 0 < 2 ^ (52 - mag.log2) := Nat.two_pow_pos _
      have a1 : (2 : Nat) ^ 52 = 2 ^ mag.log2 * 2 ^ (52 - mag.log2) := by rw [← Nat.pow_add]; congr 1; omega
      have a2 : (2 : Nat) ^ 53 = 2 ^ (mag.log2 + 1) * 2 ^ (52 - mag.log2) := by rw [← Nat.pow_add]; congr 1; omega
      have b1 : 2 ^ 52 ≤ mag * 2 ^ (52 - mag.log2) := by rw [a1]; exact Nat.mul_le_mul_right _ hlo
      have b2 : mag * 2 ^ (52 - mag.log2) < 2 ^ 53 := by rw [a2]; exact (Nat.mul_lt_mul_right hp).2 hhi
      rw [Nat.shiftLeft_eq]
      unfold Ieee.Toward.cut
      simp only [Nat.zero_min, Nat.shiftLeft_zero, Nat.div_one, Nat.mod_one]
      simp
      omega
  obtain ⟨kept, hk, k1, k2⟩ := hkept
  unfold Ieee.Format.nearest
  rw [if_neg hm]
  simp only [e2, e3, e5, e6, hlast, hk]
  obtain ⟨q, hq, hq1, hq2⟩ : ∃ q : Nat, e + 1022 = (q : Int) ∧ 1 ≤ q ∧ q ≤ 2022 := ⟨(e + 1022).toNat, by omega, by omega, by omega⟩
  have ht : ((e - 52) - (-1074)).toNat = q := by omega
  rw [ht]
  exact nearest_end neg q kept e hq hq1 hq2 k1 k2

theorem log2_shift (m k : Nat) (hm : m ≠ 0) : (m <<< k).log2 = m.log2 + k := by
  rw [Nat.shiftLeft_eq]
  have hlo : 2 ^ m.log2 ≤ m := (Nat.le_log2 hm).1 (Nat.le_refl _)
  have hhi : m < 2 ^ (m.log2 + 1) := Nat.lt_log2_self
  have hp : 0 < 2 ^ k := Nat.two_pow_pos _
  refine log2_range ?_ ?_
  · rw [Nat.pow_add]; exact Nat.mul_le_mul_right _ hlo
  · rw [show m.log2 + k + 1 = (m.log2 + 1) + k by omega, Nat.pow_add]; exact (Nat.mul_lt_mul_right hp).2 hhi
/-- The head digit of the doubled quotient. -/
theorem log2_quot (d n c : Nat) (hd : d ≠ 0) (hn : n ≠ 0) (hc : c ≤ 1) (L : Nat) (hL : d.log2 = n.log2 + L) (hL1 : 1 ≤ L) : 2 * (d / n) + c ≠ 0 ∧ L ≤ (2 * (d / n) + c).log2 ∧ (2 * (d / n) + c).log2 ≤ L + 1 := by
  have dlo : 2 ^ d.log2 ≤ d := (Nat.le_log2 hd).1 (Nat.le_refl _)
  have dhi : d < 2 ^ (d.log2 + 1) := Nat.lt_log2_self
  have nlo : 2 ^ n.log2 ≤ n := (Nat.le_log2 hn).1 (Nat.le_refl _)
  have nhi : n < 2 ^ (n.log2 + 1) := Nat.lt_log2_self
  have npos : 0 < n := Nat.pos_of_ne_zero hn
  have q1 : 2 ^ (L - 1) ≤ d / n := (Nat.le_div_iff_mul_le npos).2 (by
    refine Nat.le_trans (Nat.mul_le_mul_left _ (Nat.le_of_lt nhi)) ?_
    rw [← Nat.pow_add, show L - 1 + (n.log2 + 1) = d.log2 by omega]; exact dlo)
  have q2 : d / n < 2 ^ (L + 1) := (Nat.div_lt_iff_lt_mul npos).2 (by
    refine Nat.lt_of_lt_of_le dhi ?_
    rw [show d.log2 + 1 = (L + 1) + n.log2 by omega, Nat.pow_add]; exact Nat.mul_le_mul_left _ nlo)
  have e1 : (2 : Nat) ^ L = 2 * 2 ^ (L - 1) := by rw [show L = (L - 1) + 1 by omega, Nat.pow_succ]; simp; omega
  have e2 : (2 : Nat) ^ (L + 2) = 2 * 2 ^ (L + 1) := by rw [Nat.pow_succ]; omega
  have hne : 2 * (d / n) + c ≠ 0 := by have := Nat.two_pow_pos (L - 1); omega
  refine ⟨hne, (Nat.le_log2 hne).2 (by omega), ?_⟩
  have := (Nat.log2_lt hne).2 (show 2 * (d / n) + c < 2 ^ (L + 2) by omega)
  omega

theorem div_mid {x y : Nat} {lo hi lo' hi' : Int} (hx : Mid x lo hi) (hy : Mid y lo' hi') (h1 : -900 ≤ lo - hi') (h2 : hi - lo' ≤ 900) : ∃ r, Ieee.double.div x y = some r ∧ Mid r (lo - hi' - 1) (hi - lo' + 1) := by
  obtain ⟨s, m, i, hrx, hm, a1, a2⟩ := hx
  obtain ⟨t, n, j, hry, hn, b1, b2⟩ := hy
  have e6 : Ieee.double.fractionBits = 52 := by decide
  unfold Ieee.Format.div
  rw [hrx, hry]
  simp only [Ieee.Datum.quotient, if_neg hn, Option.map_some, e6]
  refine ⟨_, rfl, ?_⟩
  obtain ⟨more, hmore, hm54⟩ : ∃ more, 52 + 2 + n.log2 - m.log2 = more ∧ n.log2 + 54 ≤ m.log2 + more := ⟨_, rfl, by omega⟩
  rw [hmore]
  have hD : m <<< more ≠ 0 := by rw [Nat.shiftLeft_eq]; exact Nat.mul_ne_zero hm (Nat.ne_of_gt (Nat.two_pow_pos _))
  have hlD : (m <<< more).log2 = m.log2 + more := log2_shift m more hm
  obtain ⟨c, hc, hc1⟩ : ∃ c, (m <<< more % n != 0).toNat = c ∧ c ≤ 1 := ⟨_, rfl, by cases (m <<< more % n != 0) <;> simp⟩
  rw [hc]
  obtain ⟨L, hL⟩ : ∃ L, m.log2 + more = n.log2 + L := ⟨m.log2 + more - n.log2, by omega⟩
  obtain ⟨q0, q1, q2⟩ := log2_quot (m <<< more) n c hD hn hc1 L (by rw [hlD]; exact hL) (by omega)
  show Mid (Ieee.double.nearest _ _ _) _ _
  exact (nearest_mid _ _ _ q0 _ rfl (by omega) (by omega)).mono (by omega) (by omega)

theorem Mid.num {b : Nat} {lo hi : Int} (h : Mid b lo hi) : isN b = false := by
  obtain ⟨s, m, i, hr, _⟩ := h
  unfold isN; rw [hr]; rfl
/-- A whole number of at most 64 bits that is not nought. -/
theorem int_mid (n : Int) (hn : n ≠ 0) (h1 : -9223372036854775808 ≤ n) (h2 : n ≤ 9223372036854775808) : Mid (floatOfInt .f64 n) 0 64 := by
  have hm : n.natAbs ≠ 0 := by omega
  have hl : n.natAbs.log2 ≤ 63 := by
    have := (Nat.log2_lt hm).2 (show n.natAbs < 2 ^ 64 by omega)
    omega
  show Mid (Ieee.double.nearest _ n.natAbs 0) 0 64
  exact (nearest_mid _ _ 0 hm _ rfl (by omega) (by omega)).mono (by omega) (by omega)
theorem unit_mid : Mid 4741671816366391296 29 29 := ⟨_, _, _, unit_read, by decide, by decide +kernel, by decide +kernel⟩
theorem money_mid (n : Int) (hn : n ≠ 0) (h1 : -9223372036854775808 ≤ n) (h2 : n ≤ 9223372036854775808) : Mid (money n) (-30) 36 := by
  obtain ⟨r, hr, hm⟩ := div_mid (int_mid n hn h1 h2) unit_mid (by omega) (by omega)
  have : money n = r := by simp only [money, hr, Option.getD]
  rw [this]; exact hm.mono (by omega) (by omega)
theorem money_zero : Ieee.double.read (money 0) = .number false 0 (-1074) := by decide +kernel
/-- An amount of money is a number. -/
theorem money_number (n : Int) (h1 : -9223372036854775808 ≤ n) (h2 : n ≤ 9223372036854775808) : ∃ s m i, Ieee.double.read (money n) = .number s m i := by
  by_cases hn : n = 0
  · subst hn; exact ⟨_, _, _, money_zero⟩
  · obtain ⟨s, m, i, hr, _⟩ := money_mid n hn h1 h2
    exact ⟨s, m, i, hr⟩
end Go.Proofs.Ybulkaklc
