/-
  'LawS1807ABuilt': the plain law and the walk.
-/
import Derived.Test.YbulkakkaOk
import Derived.Laws.BytesArg
namespace Go.Proofs.Ybulkakka
open Go.RowKit

/-- The law's alphabet. -/
def alpha : ByteArray := ⟨#[97, 98, 99, 100, 101, 102, 103, 104, 105, 106, 107, 108, 109, 110, 111, 112, 113, 114, 115, 116, 117, 118, 119, 120, 121, 122, 48, 49, 50, 51, 52, 53, 54, 55, 56, 57, 95]⟩
/-- The letter that a number picks. -/
def alOf (z : Int) : Int := bAt alpha (z.toNat % 37)
theorem alOf_facts : ∀ n : Nat, n < 37 → okB (bAt alpha n) = true ∧ 0 ≤ bAt alpha n ∧ bAt alpha n ≤ 255 := by decide
theorem alOf_ok (z : Int) : okB (alOf z) = true ∧ 0 ≤ alOf z ∧ alOf z ≤ 255 := alOf_facts _ (Nat.mod_lt _ (by decide))

theorem lowB_nums_t {xs : List Int} (h : ∀ x ∈ xs, 0 ≤ x ∧ x ≤ 255) (h2 : ∀ x ∈ xs, okB x = true) : lowB (strOfNums xs) = true := by
  unfold lowB
  rw [strOfNums_data, List.all_eq_true]
  intro b hb
  obtain ⟨x, hx, rfl⟩ := List.mem_map.1 hb
  obtain ⟨h0, h1⟩ := h x hx
  have e : ((UInt8.ofNat x.toNat).toNat : Int) = x := by simp; omega
  rw [e]; exact h2 x hx
theorem lowB_nums_f {xs : List Int} (x : Int) (hx : x ∈ xs) (h : 0 ≤ x ∧ x ≤ 255) (h2 : okB x = false) : lowB (strOfNums xs) = false := by
  unfold lowB
  rw [strOfNums_data, List.all_eq_false]
  refine ⟨UInt8.ofNat x.toNat, List.mem_map.2 ⟨x, hx, rfl⟩, ?_⟩
  have e : ((UInt8.ofNat x.toNat).toNat : Int) = x := by simp; omega
  rw [e, h2]; simp

theorem Yba.info5 : (Yba.prog.info? 5).map (fun i => (i.zero, i.size, i.bytes)) = some (some (.int .u8 0), 1, 1) := by kernel_rfl

/-- Numbers as cells of bytes; the first k letters that are built. (Plain names, so that the walk does not write them otherwise.) -/
def rowU (xs : List Int) : List Value := xs.map (Value.int .u8)
def built (zs : List Int) (k : Nat) : List Int := (zs.take k).map alOf
theorem rowU_append (xs ys : List Int) : rowU (xs ++ ys) = rowU xs ++ rowU ys := by simp [rowU]
theorem rowU_length (xs : List Int) : (rowU xs).length = xs.length := by simp [rowU]
theorem built_succ (zs : List Int) (k : Nat) (h : k < zs.length) : built zs (k + 1) = built zs k ++ [alOf (zs.getD k 0)] := by
  unfold built
  rw [List.take_succ_eq_append_getElem h, List.map_append]
  congr 1
  simp [List.getElem?_eq_getElem h]
theorem built_length (zs : List Int) (k : Nat) (h : k ≤ zs.length) : (built zs k).length = k := by simp [built]; omega
theorem built_ok (zs : List Int) (k : Nat) : ∀ x ∈ built zs k, okB x = true ∧ 0 ≤ x ∧ x ≤ 255 := by
  intro x hx
  obtain ⟨z, _, rfl⟩ := List.mem_map.1 hx
  exact alOf_ok z
theorem alpha_at (n : Nat) (h : n < 37) : ((alpha[n]'h).toNat : Int) = bAt alpha n := by
  simp only [bAt, List.getD_eq_getElem?_getD]
  rw [List.getElem?_eq_getElem (show n < alpha.data.toList.length from h)]
  rfl

theorem al_idx (z : Int) (q0 : 0 ≤ z) (q1 : z ≤ 255) : ((alpha[(z % 37).toNat]'(show (z % 37).toNat < 37 by omega)).toNat : Int) = alOf z := by
  rw [alpha_at, alOf, show (z % 37).toNat = z.toNat % 37 by omega]

/-- 'string(b)', b a row of the call's own. -/
theorem conv_own {w : World} {base g k cap : Nat} {xs : List Int} (h : w.ownsRow base 5 1 (.slice (some ⟨g, 0, none⟩) k cap) k (rowU xs)) :
    (convert 24 9 (.slice (some ⟨g, 0, none⟩) k cap)).run Yba.prog w = .ok (.string (strOfNums xs)) w := by
  have hl : xs.length = k := by have := h.1; simpa [rowU] using this
  refine run_convert_bytes_arg (P := Yba.prog) w 24 5 Yba.underlying24 Yba.underlying5 g 0 k cap xs hl (fun i hi => ?_) 9 Yba.underlying9
  have := h.cellAt i (by omega)
  rw [Nat.zero_add, this]
  simp [rowU, List.getElem?_eq_getElem (show i < xs.length by omega)]

theorem grown_of_below {w w' : World} (h : Below w.heap.size w w') : w.grownBy w' none := ⟨h.os, h.tape, h.output, h.size, fun k hk _ => h.block k hk⟩
theorem own_kept {w w' : World} {base n cap g : Nat} {row : Option Nat} {xs : List Value} (h : w.ownsRow base 5 1 (.slice (some ⟨g, 0, none⟩) n cap) n xs) (hg : w.grownBy w' row) (hne : row ≠ some g) : w'.ownsRow base 5 1 (.slice (some ⟨g, 0, none⟩) n cap) n xs :=
  h.kept hg (Or.inr (by simp only [Value.ownBlock]; exact fun e => hne e.symm))
theorem own_lt {w : World} {base n cap g : Nat} {xs : List Value} (h : w.ownsRow base 5 1 (.slice (some ⟨g, 0, none⟩) n cap) n xs) : g < w.heap.size := (h.lt g rfl).2
/-- The cells of a row of bytes, from the i-th on. -/
theorem own_cells {w : World} {base n cap g i : Nat} {xs : List Int} (h : w.ownsRow base 5 1 (.slice (some ⟨g, 0, none⟩) n cap) n (rowU xs)) (m : Nat) (hm : i + m ≤ n) :
    ∀ j u, (rowU ((xs.drop i).take m))[j]? = some u → w.cell? ((⟨g, i, none⟩ : Addr).add j) = some u := by
  intro j u hu
  have hl : xs.length = n := by have := h.1; simpa [rowU] using this
  have hj : j < m := by
    have := (List.getElem?_eq_some_iff.1 hu).1
    simp [rowU] at this; omega
  rw [show (⟨g, i, none⟩ : Addr).add j = ⟨g, i + j, none⟩ from WideShapes.add_plain _ _ _, h.cellAt (i + j) (by omega), ← hu]
  simp only [rowU, List.getElem?_map, List.getElem?_take, List.getElem?_drop, if_pos hj]
theorem rowU_one (xs : List Int) : ∀ u ∈ rowU xs, u.oneCell' = true := ints_oneCell _ _

set_option maxHeartbeats 800000 in
set_option maxRecDepth 100000 in
theorem built_any (a0 : Option Addr) (len cap : Nat) (zs : List Int) (bad at' : Int) (w : World) (hzs : len ≤ zs.length) (hwz : ∀ n ∈ zs, 0 ≤ n ∧ n ≤ 255) (hb0 : 0 ≤ bad) (hb1 : bad ≤ 255) (ha0 : 0 ≤ at') (ha1 : at' ≤ 255)
    (hrow : Hid (∀ k, k < len → ∃ b off, a0 = some ⟨b, off, none⟩ ∧ b < w.heap.size ∧ w.cell? ⟨b, off + k, none⟩ = some (.int .u8 (zs.getD k 0)))) (hsmall : len ≤ 1024) :
    Calls Yba.prog 4 #[.slice a0 len cap, .int .u8 bad, .int .u8 at'] w fun e w' => e = .returned (.bool true) ∧ Below w.heap.size w w' := by
  obtain ⟨i0, hi, hz0, hz1, hz2⟩ := info_parts Yba.info5
  have HZ : Hid (∀ n ∈ zs, 0 ≤ n ∧ n ≤ 255) := hwz
  clear hwz
  go_enter Yba.func4, Yba.ntmps4
  go_wp2_with (at_make; refine wpList_make_own _ rfl _ _ 24 rfl w.heap.size 5 i0 (.int .u8 0) 1 Yba.underlying24 hi hz0 hz1 _ _ _ (len + 1) rfl rfl (by omega) ?b2 ?b3 (Nat.le_refl _) ?_)
  case b2 => rw [hz2]; omega
  case b3 => unfold maxLen; omega
  intro w0 hown0 hgrow0
  go_wp2
  go_loopw [7, 8] (fun vb vi wr => ∃ k : Nat, k ≤ len ∧ vi = .int .i64 k ∧ vb = .slice (some ⟨w.heap.size, 0, none⟩) k (len + 1) ∧
      wr.ownsRow w.heap.size 5 1 (.slice (some ⟨w.heap.size, 0, none⟩) k (len + 1)) k (rowU (built zs k)) ∧ Below w.heap.size w wr)
    (fun _ vi _ => len - (intOf vi).toNat)
  case atStart => exact ⟨0, Nat.zero_le _, rfl, rfl, hown0, (Below.refl _ _).grown hgrow0 (Nat.le_refl _) (fun k h => by cases h)⟩
  case round =>
    obtain ⟨k, hk, rfl, rfl, hown, hnx⟩ := hrel
    by_cases hlt : k < len
    · obtain ⟨b, off, rfl, hbw, hc⟩ := hrow.out k hlt
      have hc' : wr.cell? ⟨b, off + k, none⟩ = some (.int .u8 (zs.getD k 0)) := (hnx.cell (by exact hbw)).trans hc
      clear hc hrow
      obtain ⟨q0, q1⟩ := HZ.out (zs.getD k 0) (by rw [List.getD_eq_getElem?_getD, List.getElem?_eq_getElem (by omega)]; simp)
      obtain ⟨z, Hz0⟩ : ∃ z, z = zs.getD k 0 := ⟨_, rfl⟩
      rw [← Hz0] at hc' q0 q1
      have Hz : Hid (z = zs.getD k 0) := Hz0
      clear Hz0
      go_wp2_with (at_builtin; refine wpList_append_fits _ rfl (.tmp 25) (.tmp 33) 24 rfl w.heap.size 5 i0 1 Yba.underlying24 hi hz1 w.heap.size k (len + 1) _ rfl (hown.alloc _) ⟨wr.heap.size, 0, none⟩ 1 1 [.int .u8 (alOf z)] rfl rfl ?c1 ?c2 ?c3 ?_)
      case c1 =>
        intro t u ht
        match t, ht with
        | 0, ht =>
          simp at ht
          subst ht
          simp [Addr.add]
          exact al_idx z q0 q1
      case c2 => intro u hu; simp at hu; subst hu; rfl
      case c3 => omega
      intro w1 hown1 hgrow1
      go_wp2
      go_roundw
      case rel =>
        refine ⟨k + 1, by omega, by go_num, rfl, ?_, (hnx.alloc hnx.size _).grown hgrow1 (by simp; have := hnx.size; omega) (fun k hk => by cases hk; exact Nat.le_refl _)⟩
        rw [built_succ zs k (by omega), rowU_append, ← Hz.out]; exact hown1
      case measure => simp [intOf]; omega
    · obtain rfl : k = len := by omega
      clear hrow hown0 hgrow0
      have hlen := built_length zs k hzs
      have H1 : Hid (lowB (strOfNums (built zs k)) = true) := lowB_nums_t (fun x hx => (built_ok zs k x hx).2) (fun x hx => (built_ok zs k x hx).1)
      have hsz1 : Hid ((strOfNums (built zs k)).size ≤ maxLen) := by simp only [Hid, strOfNums_size, hlen]; unfold maxLen; omega
      have HOK : Hid (∀ x ∈ built zs k, okB x = true ∧ 0 ≤ x ∧ x ≤ 255) := built_ok zs k
      have Hlen : Hid ((built zs k).length = k) := hlen
      clear hlen HZ
      generalize built zs k = bs at *
      have hcv := conv_own hown
      have hB := own_lt hown
      go_wp2_with fail
      refine (low_any _ hsz1.out _).mono ?_
      rintro e w1 ⟨rfl, hb1⟩
      rw [H1.out]
      have hown1 := own_kept hown (grown_of_below hb1) (by simp)
      have hnx1 : Below w.heap.size w w1 := hnx.trans (hb1.mono hnx.size)
      have hB1 := own_lt hown1
      clear hcv hown hb1 hnx hB
      go_wp2_with fail
      refine (ok_any _ _).mono ?_
      rintro e w9 ⟨rfl, hw9⟩
      rw [hw9]
      clear hw9
      obtain ⟨p, hp, hpk⟩ : ∃ p : Nat, at' % ((k : Int) + 1) = (p : Int) ∧ p ≤ k := ⟨(at' % ((k : Int) + 1)).toNat, by have := Int.emod_nonneg at' (show (k : Int) + 1 ≠ 0 by omega); omega, by have := Int.emod_lt_of_pos at' (show (0 : Int) < (k : Int) + 1 by omega); omega⟩
      by_cases hb : okB bad = true
      · rw [hb]
        have HCF : Hid (okB (65 + bad % 26) = false) := okB_f (by omega)
        have HC0 : Hid (0 ≤ 65 + bad % 26 ∧ 65 + bad % 26 ≤ 255) := ⟨by omega, by omega⟩
        go_wp2_with (at_make; refine wpList_make_own _ rfl _ _ 24 rfl w.heap.size 5 i0 (.int .u8 0) 1 Yba.underlying24 hi hz0 hz1 _ _ _ (k + 1) rfl rfl (by omega) ?b2 ?b3 hnx1.size ?_)
        case b2 => rw [hz2]; omega
        case b3 => unfold maxLen; omega
        intro w2 hout2 hgrow2
        have hown2 := own_kept hown1 hgrow2 (by simp)
        have hnx2 : Below w.heap.size w w2 := hnx1.grown hgrow2 hnx1.size (fun k h => by cases h)
        have hB2 : w.heap.size < w1.heap.size := hB1
        go_wp2_with (first
          | (at_builtin; refine wpList_append_fits _ rfl (.tmp 55) (.tmp 58) 24 rfl w.heap.size 5 i0 1 Yba.underlying24 hi hz1 w1.heap.size 0 (k + 1) _ rfl hout2 ⟨w.heap.size, 0, none⟩ p (k + 1) (rowU (bs.take p)) rfl ?c1 ?c2 ?c3 ?c4 ?_))
        case c1 => rw [rowU_length, List.length_take, Hlen.out]; omega
        case c2 => have := own_cells (i := 0) hown2 p (by omega); simpa using this
        case c3 => exact rowU_one _
        case c4 => omega
        intro w3 hout3 hgrow3
        have hown3 := own_kept hown2 hgrow3 (by simp; omega)
        have hnx3 : Below w.heap.size w w3 := hnx2.grown hgrow3 hnx2.size (fun k h => by cases h; omega)
        clear hout2 hgrow2 hgrow3 hown2 hnx2 hown1
        go_wp2_with (at_builtin; refine wpList_append_fits _ rfl (.tmp 60) (.tmp 62) 24 rfl w.heap.size 5 i0 1 Yba.underlying24 hi hz1 w1.heap.size p (k + 1) _ rfl (hout3.alloc _) ⟨w3.heap.size, 0, none⟩ 1 1 [.int .u8 (65 + bad % 26)] rfl rfl ?c5 ?c6 ?c7 ?_)
        case c5 =>
          intro t u ht
          match t, ht with
          | 0, ht => simp at ht; subst ht; simp [Addr.add]
        case c6 => intro u hu; simp at hu; subst hu; rfl
        case c7 => omega
        intro w4 hout4 hgrow4
        have hown4 := own_kept (hown3.alloc _) hgrow4 (by simp; omega)
        have hnx4 : Below w.heap.size w w4 := (hnx3.alloc hnx3.size _).grown hgrow4 (by simp; have := hnx3.size; omega) (fun k h => by cases h; omega)
        clear hout3 hgrow4 hown3
        go_wp2_with (at_builtin; refine wpList_append_fits _ rfl (.tmp 64) (.tmp 67) 24 rfl w.heap.size 5 i0 1 Yba.underlying24 hi hz1 w1.heap.size (p + 1) (k + 1) _ rfl hout4 ⟨w.heap.size, p, none⟩ (k - p) _ (rowU (bs.drop p)) rfl ?c8 ?c9 ?c10 ?c11 ?_)
        case c8 => rw [rowU_length, List.length_drop, Hlen.out]; omega
        case c9 => have := own_cells (i := p) hown4 (k - p) (by omega); rwa [List.take_of_length_le (by rw [List.length_drop, Hlen.out]; exact Nat.le_refl _)] at this
        case c10 => exact rowU_one _
        case c11 => omega
        intro w5 hout5 hgrow5
        have hnx5 : Below w.heap.size w w5 := hnx4.grown hgrow5 hnx4.size (fun k h => by cases h; omega)
        obtain ⟨s5, hcv5, hs5, HL5⟩ : ∃ s : ByteArray, (convert 24 9 (.slice (some ⟨w1.heap.size, 0, none⟩) (p + 1 + (k - p)) (k + 1))).run Yba.prog w5 = .ok (.string s) w5 ∧ Hid (s.size ≤ maxLen) ∧ Hid (lowB s = false) := by
          have hl := Hlen.out
          refine ⟨strOfNums (bs.take p ++ (65 + bad % 26) :: bs.drop p), conv_own (by rw [show rowU (bs.take p ++ (65 + bad % 26) :: bs.drop p) = rowU (bs.take p) ++ Value.int .u8 (65 + bad % 26) :: rowU (bs.drop p) by simp [rowU]]; exact hout5), ?_, lowB_nums_f (65 + bad % 26) (by simp) HC0.out HCF.out⟩
          simp only [Hid, strOfNums_size, List.length_append, List.length_cons, List.length_take, List.length_drop, maxLen]
          omega
        clear hout5 hgrow5 hout4 hown4 hnx4
        go_wp2_with (go_at_call 6; refine (low_any s5 hs5.out _).mono ?_; rintro e w6 ⟨rfl, hb6⟩; rw [HL5.out])
        go_ret
        exact ⟨rfl, hnx5.trans (hb6.mono hnx5.size)⟩
      · rw [show okB bad = false by simpa using hb]
        have hbf : okB bad = false := by simpa using hb
        clear hb
        have HCF : Hid (okB (bad) = false) := hbf
        have HC0 : Hid (0 ≤ bad ∧ bad ≤ 255) := ⟨by omega, by omega⟩
        go_wp2_with (at_make; refine wpList_make_own _ rfl _ _ 24 rfl w.heap.size 5 i0 (.int .u8 0) 1 Yba.underlying24 hi hz0 hz1 _ _ _ (k + 1) rfl rfl (by omega) ?b2 ?b3 hnx1.size ?_)
        case b2 => rw [hz2]; omega
        case b3 => unfold maxLen; omega
        intro w2 hout2 hgrow2
        have hown2 := own_kept hown1 hgrow2 (by simp)
        have hnx2 : Below w.heap.size w w2 := hnx1.grown hgrow2 hnx1.size (fun k h => by cases h)
        have hB2 : w.heap.size < w1.heap.size := hB1
        go_wp2_with (first
          | (at_builtin; refine wpList_append_fits _ rfl (.tmp 55) (.tmp 58) 24 rfl w.heap.size 5 i0 1 Yba.underlying24 hi hz1 w1.heap.size 0 (k + 1) _ rfl hout2 ⟨w.heap.size, 0, none⟩ p (k + 1) (rowU (bs.take p)) rfl ?c1 ?c2 ?c3 ?c4 ?_))
        case c1 => rw [rowU_length, List.length_take, Hlen.out]; omega
        case c2 => have := own_cells (i := 0) hown2 p (by omega); simpa using this
        case c3 => exact rowU_one _
        case c4 => omega
        intro w3 hout3 hgrow3
        have hown3 := own_kept hown2 hgrow3 (by simp; omega)
        have hnx3 : Below w.heap.size w w3 := hnx2.grown hgrow3 hnx2.size (fun k h => by cases h; omega)
        clear hout2 hgrow2 hgrow3 hown2 hnx2 hown1
        go_wp2_with (at_builtin; refine wpList_append_fits _ rfl (.tmp 60) (.tmp 62) 24 rfl w.heap.size 5 i0 1 Yba.underlying24 hi hz1 w1.heap.size p (k + 1) _ rfl (hout3.alloc _) ⟨w3.heap.size, 0, none⟩ 1 1 [.int .u8 (bad)] rfl rfl ?c5 ?c6 ?c7 ?_)
        case c5 =>
          intro t u ht
          match t, ht with
          | 0, ht => simp at ht; subst ht; simp [Addr.add]
        case c6 => intro u hu; simp at hu; subst hu; rfl
        case c7 => omega
        intro w4 hout4 hgrow4
        have hown4 := own_kept (hown3.alloc _) hgrow4 (by simp; omega)
        have hnx4 : Below w.heap.size w w4 := (hnx3.alloc hnx3.size _).grown hgrow4 (by simp; have := hnx3.size; omega) (fun k h => by cases h; omega)
        clear hout3 hgrow4 hown3
        go_wp2_with (at_builtin; refine wpList_append_fits _ rfl (.tmp 64) (.tmp 67) 24 rfl w.heap.size 5 i0 1 Yba.underlying24 hi hz1 w1.heap.size (p + 1) (k + 1) _ rfl hout4 ⟨w.heap.size, p, none⟩ (k - p) _ (rowU (bs.drop p)) rfl ?c8 ?c9 ?c10 ?c11 ?_)
        case c8 => rw [rowU_length, List.length_drop, Hlen.out]; omega
        case c9 => have := own_cells (i := p) hown4 (k - p) (by omega); rwa [List.take_of_length_le (by rw [List.length_drop, Hlen.out]; exact Nat.le_refl _)] at this
        case c10 => exact rowU_one _
        case c11 => omega
        intro w5 hout5 hgrow5
        have hnx5 : Below w.heap.size w w5 := hnx4.grown hgrow5 hnx4.size (fun k h => by cases h; omega)
        obtain ⟨s5, hcv5, hs5, HL5⟩ : ∃ s : ByteArray, (convert 24 9 (.slice (some ⟨w1.heap.size, 0, none⟩) (p + 1 + (k - p)) (k + 1))).run Yba.prog w5 = .ok (.string s) w5 ∧ Hid (s.size ≤ maxLen) ∧ Hid (lowB s = false) := by
          have hl := Hlen.out
          refine ⟨strOfNums (bs.take p ++ (bad) :: bs.drop p), conv_own (by rw [show rowU (bs.take p ++ (bad) :: bs.drop p) = rowU (bs.take p) ++ Value.int .u8 (bad) :: rowU (bs.drop p) by simp [rowU]]; exact hout5), ?_, lowB_nums_f (bad) (by simp) HC0.out HCF.out⟩
          simp only [Hid, strOfNums_size, List.length_append, List.length_cons, List.length_take, List.length_drop, maxLen]
          omega
        clear hout5 hgrow5 hout4 hown4 hnx4
        go_wp2_with (go_at_call 6; refine (low_any s5 hs5.out _).mono ?_; rintro e w6 ⟨rfl, hb6⟩; rw [HL5.out])
        go_ret
        exact ⟨rfl, hnx5.trans (hb6.mono hnx5.size)⟩
end Go.Proofs.Ybulkakka
