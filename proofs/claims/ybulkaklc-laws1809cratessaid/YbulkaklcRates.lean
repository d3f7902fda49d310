/-
  'LawS1809CRates': the walk.
-/
import Derived.Test.YbulkaklcMem
import Derived.OpenShut
namespace Go.Proofs.Ybulkaklc
open Go.RowKit
attribute [local go_sem] run_store_float

theorem Row.grown {w w' : World} {b n bl : Nat} {G : Nat → Lay} (h : Row w b n G) (hg : w.grownBy w' (some bl)) (hne : b ≠ bl) (hb : b < w.heap.size) : Row w' b n G := by
  have hblk := hg.block b hb (by simpa using hne)
  refine ⟨fun i hi => ?_, fun j => (World.frozen?_of_block (a := ⟨b, j, none⟩) hblk).trans (h.fz j)⟩
  obtain ⟨h0, h1, h2, h3, h4, h5⟩ := h.lay i hi
  exact ⟨(World.cell?_of_block (a := ⟨b, _, none⟩) hblk).trans h0, (World.cell?_of_block (a := ⟨b, _, none⟩) hblk).trans h1, (World.cell?_of_block (a := ⟨b, _, none⟩) hblk).trans h2, (World.cell?_of_block (a := ⟨b, _, none⟩) hblk).trans h3, (World.cell?_of_block (a := ⟨b, _, none⟩) hblk).trans h4, (World.cell?_of_block (a := ⟨b, _, none⟩) hblk).trans h5⟩
theorem order_refl {x : Nat} (h : OK x) : FloatKind.f64.format.order x x = some .eq := order_self h

theorem Good.refOk {L : Nat → Ly} {n ir tf t : Nat} (h : Good L n ir tf t) {i : Nat} (hi : i < n) : OK (layOf (L i)).ref := by
  obtain ⟨_, _, r1, r2, _⟩ := h.rng i hi
  unfold layOf
  dsimp only
  split
  · exact zero_ok
  · exact (over256_mid _ (by omega) (by omega)).nnum.num.ok
theorem r2_hit {L : Nat → Ly} {n ir tf t m x : Nat} {r : Int} (hr : r = ((m + 1 : Nat) : Int)) (ht : trial L ir tf t m = x) (hg : gtF (R1 L n ir t (m + 1)) x = true) (j : Nat) : (if j = m then x else R1 L n ir t j) = R2 L n ir tf t r j := by
  unfold R2
  by_cases e : j = m
  · subst e
    rw [if_pos rfl, if_pos ⟨by omega, by omega, by rw [ht]; exact hg⟩, ht]
  · rw [if_neg e, if_neg (fun h => e (by omega))]
theorem r2_miss {L : Nat → Ly} {n ir tf t m x : Nat} {r : Int} (hr : r = ((m + 1 : Nat) : Int)) (ht : trial L ir tf t m = x) (hg : gtF (R1 L n ir t (m + 1)) x = false) (j : Nat) : R1 L n ir t j = R2 L n ir tf t r j := by
  unfold R2
  by_cases e : j = m
  · subst e
    rw [if_neg (fun h => by rw [ht, hg] at h; exact absurd h.2.2 (by simp))]
  · rw [if_neg (fun h => e (by omega))]
set_option maxHeartbeats 6400000 in
set_option maxRecDepth 100000 in
theorem rates_small (a0 : Option Addr) (n cap : Nat) (L : Nat → Ly) (irk tfk tm : Int) (w : World) (hn : n ≤ 1024) (hin : Hid (IsIn w a0 n L)) (k0 : 0 ≤ irk) (k1 : irk ≤ 255) (j0 : 0 ≤ tfk) (j1 : tfk ≤ 255) (m0 : -9223372036854775808 ≤ tm) (m1 : tm ≤ 9223372036854775807) :
    Calls Yba.prog 5 #[.slice a0 n cap, .int .u8 irk, .int .u8 tfk, .int .i64 tm] w fun e w' => e = .returned (.bool true) ∧ Below w.heap.size w w' := by
  have q1 : ∀ w : World, (binOp .quo 22 (.float .f64 (floatOfInt .f64 (1 + irk))) (.float .f64 4643211215818981376)).run Yba.prog w = .ok (.float .f64 (over256 (1 + irk))) w := fun w => run_float_arith w .quo 22 .f64 _ _ _ (over256_eq _)
  have q2 : ∀ w : World, (binOp .quo 22 (.float .f64 (floatOfInt .f64 tfk)) (.float .f64 4643176031446892544)).run Yba.prog w = .ok (.float .f64 (over255 tfk)) w := fun w => run_float_arith w .quo 22 .f64 _ _ _ (over255_eq _)
  have HG : Hid (Good L n (over256 (1 + irk)) (over255 tfk) (money tm)) := ⟨hin.out.rng, over256_mid _ (by omega) (by omega), over255_num _ j0 j1, money_num _ m0 m1⟩
  obtain ⟨i22, hi22, z22, s22, b22⟩ := info_parts Yba.info22
  go_enter Yba.func5, Yba.ntmps5
  go_wp2_with (go_at_call 9; refine (float64_any _ _).mono ?_; rintro e w5 ⟨rfl, hw5⟩; rw [hw5]; clear hw5)
  generalize over256 (1 + irk) = ir at *
  generalize over255 tfk = tf at *
  generalize money tm = t at *
  clear q1 q2
  refine (make_any a0 n cap L w hn hin).mono ?_
  rintro e w1 ⟨rfl, hrow1, hb1, hs1⟩
  have HR1 : Hid (Row w1 w.heap.size n (fun i => layOf (L i))) := hrow1
  clear hrow1
  go_wp2_with fail
  have hin1 : Hid (IsIn w1 a0 n L) := ⟨fun k hk => by
    obtain ⟨b, off, e, hbw, hc⟩ := hin.out.cells k hk
    refine ⟨b, off, e, by omega, fun j hj => ?_⟩
    obtain ⟨g0, g1, g2, g3⟩ := hc j hj
    exact ⟨(hb1.cell (p := ⟨b, _, none⟩) hbw).trans g0, (hb1.cell (p := ⟨b, _, none⟩) hbw).trans g1, (hb1.cell (p := ⟨b, _, none⟩) hbw).trans g2, (hb1.cell (p := ⟨b, _, none⟩) hbw).trans g3⟩, hin.out.rng⟩
  refine (make_any a0 n cap L w1 hn hin1).mono ?_
  rintro e w2 ⟨rfl, hrow2, hb2, hs2⟩
  have HR2 : Hid (Row w2 w1.heap.size n (fun i => layOf (L i))) := hrow2
  have HR1' : Hid (Row w2 w.heap.size n (fun i => layOf (L i))) := HR1.out.below hb2 hs1
  have hb12 : Below w.heap.size w w2 := hb1.trans (hb2.mono (by omega))
  clear hrow2 hin1 HR1 hb1 hb2
  go_wp2_with fail
  have P3 : Hid (Pac (w2.alloc (.cells #[.int .i64 0, .slice none 0 0, .int .i64 0, .float .f64 ir, .float .f64 tf, .int .i64 0, .int .i64 0, .int .i64 0, .int .i64 0, .int .i64 0, .int .i64 0, .int .i64 0, .slice (some ⟨w.heap.size, 0, none⟩) n n, .slice none 0 0, .bool false, .slice none 0 0] 46)) w2.heap.size w.heap.size n ir tf) := ⟨by simp, by simp, by simp⟩
  have hb3 : Below w2.heap.size w2 (w2.alloc (.cells #[.int .i64 0, .slice none 0 0, .int .i64 0, .float .f64 ir, .float .f64 tf, .int .i64 0, .int .i64 0, .int .i64 0, .int .i64 0, .int .i64 0, .int .i64 0, .int .i64 0, .slice (some ⟨w.heap.size, 0, none⟩) n n, .slice none 0 0, .bool false, .slice none 0 0] 46)) := (Below.refl _ _).alloc (Nat.le_refl _) _
  have hs3 : (w2.alloc (.cells #[.int .i64 0, .slice none 0 0, .int .i64 0, .float .f64 ir, .float .f64 tf, .int .i64 0, .int .i64 0, .int .i64 0, .int .i64 0, .int .i64 0, .int .i64 0, .int .i64 0, .slice (some ⟨w.heap.size, 0, none⟩) n n, .slice none 0 0, .bool false, .slice none 0 0] 46)).heap.size = w2.heap.size + 1 := by simp
  generalize w2.alloc (.cells #[.int .i64 0, .slice none 0 0, .int .i64 0, .float .f64 ir, .float .f64 tf, .int .i64 0, .int .i64 0, .int .i64 0, .int .i64 0, .int .i64 0, .int .i64 0, .int .i64 0, .slice (some ⟨w.heap.size, 0, none⟩) n n, .slice none 0 0, .bool false, .slice none 0 0] 46) = w3 at *
  refine (fill_any w2.heap.size w.heap.size w3 HG P3.out (HR1'.out.below hb3 (by omega)) (by omega) (by omega) hn).mono ?_
  rintro e w4 ⟨rfl, ⟨r, hlow, hrow⟩, hgr⟩
  have HLow : Hid (Low (R1 L n ir t) n r) := hlow
  have HRow : Hid (Row w4 w.heap.size n (lays L (R2 L n ir tf t r))) := hrow
  have HBef : Hid (Row w4 w1.heap.size n (fun i => layOf (L i))) := (HR2.out.below hb3 hs2).grown hgr (by omega) (by omega)
  have HPac : Hid (Pac w4 w2.heap.size w.heap.size n ir tf) := P3.out.grown hgr (by omega)
  have hb4 : Below w.heap.size w w4 := (hb12.trans (hb3.mono (by omega))).grown hgr (by omega) (fun k e => by cases e; exact Nat.le_refl _)
  have hs4 : w2.heap.size < w4.heap.size := by have := hgr.size; omega
  have c12 := HPac.out.c12
  clear hlow hrow hgr P3 hb3 hb12 HR1' HR2 hs3 w3
  go_wp2_with (at_make; refine wpList_make_full _ rfl _ _ 43 rfl w.heap.size 22 i22 _ 1 Yba.underlying43 hi22 z22 s22 _ _ _ _ n rfl rfl rfl rfl ?b2 ?b3 ?b4 ?_)
  case b2 => rw [b22]; omega
  case b3 => unfold maxLen; omega
  case b4 => omega
  intro w5 hown5 hgrow5
  have hb5 := below_of_grown hgrow5
  have M0 : Hid (Mem L n ir tf w w.heap.size w1.heap.size w2.heap.size w4.heap.size (R2 L n ir tf t r) (fun _ => 0) w5) :=
    ⟨HRow.out.below hb5 (by omega), HBef.out.below hb5 (by omega), HPac.out.below hb5 hs4, erow_made hown5, hb4.trans (hb5.mono (by omega)), Nat.le_refl _, hs1, hs2, hs4, (hown5.lt _ rfl).2⟩
  clear hown5 hgrow5 hb5 HRow HBef HPac hb4 c12
  generalize w4.heap.size = be at *
  generalize w2.heap.size = bp at *
  generalize w1.heap.size = bf at *
  go_wp2
  go_loopw [17] (fun vi wr => ∃ k : Nat, k ≤ n ∧ vi = .int .i64 k ∧ Hid (Mem L n ir tf w w.heap.size bf bp be (R2 L n ir tf t r) (fun j => if j < k then over255 (L j).rate else 0) wr)) (fun vi _ => n - (intOf vi).toNat)
  case atStart => exact ⟨0, Nat.zero_le _, rfl, M0.out.congr fun j _ => by simp⟩
  case round =>
    obtain ⟨k, hk, rfl, HM⟩ := hrel
    clear M0
    by_cases hlt : k < n
    · obtain ⟨g0, _, _, _, _, _⟩ := HM.out.bef.lay k hlt
      have g0' : wr.cell? ⟨bf, k * 6, none⟩ = some (.float .f64 (over255 (L k).rate)) := g0
      have e0 := HM.out.exp.cell k hlt
      have f0 := HM.out.exp.fz k
      have HS : Hid (Mem L n ir tf w w.heap.size bf bp be (R2 L n ir tf t r) (fun j => if j < k + 1 then over255 (L j).rate else 0) (wr.setCell ⟨be, k, none⟩ (.float .f64 (over255 (L k).rate)))) := (HM.out.setE hlt (over255 (L k).rate)).congr fun j hj => by
        by_cases e : j = k
        · subst e; simp
        · have : j < k ↔ j < k + 1 := by omega
          simp only [if_neg e, this]
      clear g0 HM
      go_wp2
      go_roundw
      case rel => exact ⟨k + 1, by omega, by go_num, HS⟩
      case measure => simp [intOf]; omega
    · obtain rfl : n = k := by omega
      have M1 : Hid (Mem L n ir tf w w.heap.size bf bp be (R2 L n ir tf t r) (rateAt L n ir t 0) wr) := HM.out.congr fun j hj => by simp [hj, rateAt_zero hj]
      clear HM hlt hk
      go_wp2
      go_loopw [18, 19, 20] (fun v4 v5 v6 wr => ∃ k : Nat, k ≤ n ∧ v4 = .float .f64 (st L n ir t k).1 ∧ v5 = .bool (st L n ir t k).2 ∧ v6 = .int .i64 k ∧ Hid (Mem L n ir tf w w.heap.size bf bp be (R2 L n ir tf t r) (rateAt L n ir t k) wr)) (fun _ _ v6 _ => n - (intOf v6).toNat)
      case atStart => exact ⟨0, Nat.zero_le _, rfl, rfl, rfl, M1⟩
      case round =>
        obtain ⟨k, hk, rfl, rfl, rfl, HM⟩ := hrel
        clear M1
        by_cases hlt : k < n
        · obtain ⟨i, hi, hik⟩ : ∃ i : Nat, i = n - 1 - k ∧ (n : Int) - 1 - k = i := ⟨n - 1 - k, rfl, by omega⟩
          have hin : i < n := by omega
          obtain ⟨_, g1, _, _, _, _⟩ := HM.out.bef.lay i hin
          have g1' : wr.cell? ⟨bf, i * 6 + 1, none⟩ = some (.int .i64 (L i).spent) := g1
          have e0 := HM.out.exp.cell i hin
          have f0 := HM.out.exp.fz i
          have q1 : ∀ w : World, (binOp .quo 22 (.float .f64 (money (L i).spent)) (.float .f64 ir)).run Yba.prog w = .ok (.float .f64 (fullOf L ir i)) w := fun w => run_float_arith w .quo 22 .f64 _ _ _ (HG.out.full hin)
          clear g1
          have hst : st L n ir t (k + 1) = nextS L ir i (st L n ir t k) := by rw [hi]; rfl
          have HO : Hid (OK (st L n ir t k).1) := HG.out.st k (by omega)
          have HSet0 : Hid (∀ x, outRate L ir i (st L n ir t k) = x → Mem L n ir tf w w.heap.size bf bp be (R2 L n ir tf t r) (rateAt L n ir t (k + 1)) (wr.setCell ⟨be, i, none⟩ (.float .f64 x))) := fun x hx => (HM.out.setE hin x).congr fun j hj => by
            rw [rateAt_step hlt, ← hi]
            by_cases e : j = i
            · simp only [if_pos e, hx]
            · simp only [if_neg e]
          have HKeep0 : Hid (outRate L ir i (st L n ir t k) = over255 (L i).rate → Mem L n ir tf w w.heap.size bf bp be (R2 L n ir tf t r) (rateAt L n ir t (k + 1)) wr) := fun hx => HM.out.congr fun j hj => by
            rw [rateAt_step hlt, ← hi]
            by_cases e : j = i
            · rw [if_pos e, hx, e]
              unfold rateAt
              rw [if_neg (by omega)]
            · rw [if_neg e]
          generalize hs : st L n ir t k = s at *
          obtain ⟨left, filled⟩ := s
          have HST : Hid (st L n ir t (k + 1) = nextS L ir i (left, filled)) := hst
          clear hs hst hi HM
          cases filled with
          | true =>
            have HN : Hid (st L n ir t (k + 1) = (left, true)) := by rw [HST.out]; simp [Hid, nextS]
            have HQ := (show Hid _ from HSet0.out 0 (by simp [outRate]))
            clear HSet0 HKeep0 HST
            go_wp2_with (go_at_call 9; refine (float64_any _ _).mono ?_; rintro e w5 ⟨rfl, hw5⟩; rw [hw5]; clear hw5)
            go_roundw
            case rel => exact ⟨k + 1, by omega, by rw [HN.out], by rw [HN.out], by go_num, HQ⟩
            case measure => simp [intOf]; omega
          | false =>
            by_cases hsp : (L i).spent = 0
            · have HN : Hid (st L n ir t (k + 1) = (left, false)) := by rw [HST.out]; simp [Hid, nextS, hsp]
              have HQ := (show Hid _ from HKeep0.out (by simp [outRate, hsp]))
              have hz : ((L i).spent == 0) = true := by simpa using hsp
              clear HSet0 HKeep0 HST hsp
              go_wp2_with (go_at_call 9; refine (float64_any _ _).mono ?_; rintro e w5 ⟨rfl, hw5⟩; rw [hw5]; clear hw5)
              go_roundw
              case rel => exact ⟨k + 1, by omega, by rw [HN.out], by rw [HN.out], by go_num, HQ⟩
              case measure => simp [intOf]; omega
            · have hz : ((L i).spent == 0) = false := by simpa using hsp
              obtain ⟨o, ho⟩ := order_ok (HG.out.nnum hin hsp).num.ok HO.out
              have ho' : FloatKind.f64.format.order (fullOf L ir i) left = some o := ho
              clear ho
              by_cases hle : o = .gt
              · subst hle
                have hf : leF (fullOf L ir i) left = false := by unfold leF; rw [ho']; rfl
                have q2 : ∀ w : World, (binOp .quo 22 (.float .f64 left) (.float .f64 (fullOf L ir i))).run Yba.prog w = .ok (.float .f64 (fdiv left (fullOf L ir i))) w := fun w => run_float_arith w .quo 22 .f64 _ _ _ (div_ok HO.out (HG.out.nnum hin hsp)).1
                have HN : Hid (st L n ir t (k + 1) = (left, true)) := by rw [HST.out]; simp [Hid, nextS, hsp, hf]
                have HQ := (show Hid _ from HSet0.out (fdiv left (fullOf L ir i)) (by simp [outRate, hsp, hf]))
                clear HSet0 HKeep0 HST hsp hf
                go_wp2_with (go_at_call 9; refine (float64_any _ _).mono ?_; rintro e w5 ⟨rfl, hw5⟩; rw [hw5]; clear hw5)
                go_roundw
                case rel => exact ⟨k + 1, by omega, by rw [HN.out], by rw [HN.out], by go_num, HQ⟩
                case measure => simp [intOf]; omega
              · have hf : leF (fullOf L ir i) left = true := by
                  unfold leF; rw [ho']
                  cases o
                  · rfl
                  · rfl
                  · exact absurd rfl hle
                have q2 : ∀ w : World, (binOp .sub 22 (.float .f64 left) (.float .f64 (fullOf L ir i))).run Yba.prog w = .ok (.float .f64 (fsub left (fullOf L ir i))) w := fun w => run_float_arith w .sub 22 .f64 _ _ _ (sub_ok HO.out (HG.out.nnum hin hsp).num).1
                have HN : Hid (st L n ir t (k + 1) = (fsub left (fullOf L ir i), false)) := by rw [HST.out]; simp [Hid, nextS, hsp, hf]
                have HQ := (show Hid _ from HSet0.out 4607182418800017408 (by simp [outRate, hsp, hf]))
                have ho2 : o = .lt ∨ o = .eq := by cases o <;> simp_all
                clear HSet0 HKeep0 HST hsp hf hle
                rcases ho2 with rfl | rfl
                all_goals
                  go_wp2_with (go_at_call 9; refine (float64_any _ _).mono ?_; rintro e w5 ⟨rfl, hw5⟩; rw [hw5]; clear hw5)
                  go_roundw
                  case rel => exact ⟨k + 1, by omega, by rw [HN.out], by rw [HN.out], by go_num, HQ⟩
                  case measure => simp [intOf]; omega
        · obtain rfl : n = k := by omega
          have M2 : Hid (Mem L n ir tf w w.heap.size bf bp be (R2 L n ir tf t r) (R1 L n ir t) wr) := HM.out.congr fun j hj => by rw [rateAt_all]
          clear HM hlt hk
          go_wp2
          go_loopw [24, 25] (fun v24 vi wr => ∃ k : Nat, k ≤ n ∧ v24 = .int .i64 (-1) ∧ vi = .int .i64 k ∧ Hid (∀ j, j < k → gtF (R1 L n ir t j) 0 = false) ∧ Hid (Mem L n ir tf w w.heap.size bf bp be (R2 L n ir tf t r) (R1 L n ir t) wr)) (fun _ vi _ => n - (intOf vi).toNat)
          case atStart => exact ⟨0, Nat.zero_le _, rfl, rfl, fun j hj => absurd hj (Nat.not_lt_zero j), M2⟩
          case round =>
            obtain ⟨k, hk, rfl, rfl, HJ, HM⟩ := hrel
            clear M2
            by_cases hlt : k < n
            · have e0 := HM.out.exp.cell k hlt
              by_cases hgt : gtF (R1 L n ir t k) 0 = true
              · have hgt' : (FloatKind.f64.format.order (R1 L n ir t k) 0 == some .gt) = true := hgt
                have HU : Hid (r = (k : Int)) := HLow.out.uniq (.inr ⟨k, rfl, hlt, hgt, HJ.out⟩)
                clear hgt HJ
                by_cases hk0 : k = 0
                · subst hk0
                  have HM4 : Hid (Mem L n ir tf w w.heap.size bf bp be (R2 L n ir tf t r) (R2 L n ir tf t r) wr) := HM.out.congr fun j hj => by rw [HU.out]; simp [R2]
                  clear HM
                  go_wp2
                  go_loopw [28] (fun vi wr => ∃ k : Nat, k ≤ n ∧ vi = .int .i64 k ∧ Hid (Mem L n ir tf w w.heap.size bf bp be (R2 L n ir tf t r) (R2 L n ir tf t r) wr)) (fun vi _ => n - (intOf vi).toNat)
                  case atStart => exact ⟨0, Nat.zero_le _, rfl, HM4⟩
                  case round =>
                    obtain ⟨k, hk, rfl, HM⟩ := hrel
                    clear HM4
                    have c12 := HM.out.pac.c12
                    have c3 := HM.out.pac.c3
                    have c4 := HM.out.pac.c4
                    have d1 := HM.out.d1
                    have d2 := HM.out.d2
                    have d3 := HM.out.d3
                    have d4 := HM.out.d4
                    have hbf : bf < wr.heap.size := by omega
                    have hbl : w.heap.size < wr.heap.size := by omega
                    by_cases hlt : k < n
                    · have r0 : wr.cell? ⟨w.heap.size, k * 6, none⟩ = some (.float .f64 (R2 L n ir tf t r k)) := (HM.out.row.lay k hlt).1
                      have r1 : wr.cell? ⟨w.heap.size, k * 6 + 1, none⟩ = some (.int .i64 (L k).spent) := (HM.out.row.lay k hlt).2.1
                      have r2 : wr.cell? ⟨w.heap.size, k * 6 + 2, none⟩ = some (.float .f64 (layOf (L k)).ref) := (HM.out.row.lay k hlt).2.2.1
                      have r3 : wr.cell? ⟨w.heap.size, k * 6 + 3, none⟩ = some (.int .i64 (L k).rs) := (HM.out.row.lay k hlt).2.2.2.1
                      have r4 := (HM.out.row.lay k hlt).2.2.2.2.1
                      have r5 := (HM.out.row.lay k hlt).2.2.2.2.2
                      have b1 : wr.cell? ⟨bf, k * 6 + 1, none⟩ = some (.int .i64 (L k).spent) := (HM.out.bef.lay k hlt).2.1
                      have b2 : wr.cell? ⟨bf, k * 6 + 2, none⟩ = some (.float .f64 (layOf (L k)).ref) := (HM.out.bef.lay k hlt).2.2.1
                      have b3 : wr.cell? ⟨bf, k * 6 + 3, none⟩ = some (.int .i64 (L k).rs) := (HM.out.bef.lay k hlt).2.2.2.1
                      have e0 := HM.out.exp.cell k hlt
                      have o1 := order_refl (HG.out.r2 hlt r)
                      have o2 := order_refl (HG.out.refOk hlt)
                      have o3 := order_refl zero_ok
                      have HQ : Hid (∀ w', Below wr.heap.size wr w' → Mem L n ir tf w w.heap.size bf bp be (R2 L n ir tf t r) (R2 L n ir tf t r) w') := fun w' h => HM.out.next h
                      clear HM
                      go_wp2_with fail
                      go_quiet (fail)
                      go_wp2_with fail
                      go_quiet (fail)
                      go_wp2
                      go_roundw
                      case rel => exact ⟨k + 1, by omega, by go_num, HQ.out _ (below_drewN' ((Below.refl _ _).alloc (Nat.le_refl _) _) _)⟩
                      case measure => simp [intOf]; omega
                    · have o1 := order_refl HG.out.ir.nnum.num.ok
                      have o2 := order_refl HG.out.tf.ok
                      have HB : Hid (Below w.heap.size w wr) := HM.out.below
                      clear HM
                      go_wp2
                      go_ret
                      exact ⟨rfl, HB.out⟩
                · obtain ⟨m, rfl⟩ : ∃ m, k = m + 1 := ⟨k - 1, by omega⟩
                  have d1 := HM.out.d1
                  have d2 := HM.out.d2
                  have d3 := HM.out.d3
                  have d4 := HM.out.d4
                  have hbf : bf < wr.heap.size := by omega
                  have em := HM.out.exp.cell m (by omega)
                  have fm := HM.out.exp.fz m
                  obtain ⟨b0, b1, b2, b3, b4, b5⟩ := HM.out.bef.lay m (by omega)
                  by_cases hrs : (L m).rs = 0
                  · have b3' : wr.cell? ⟨bf, m * 6 + 3, none⟩ = some (.int .i64 0) := by rw [b3]; simp [layOf, hrs]
                    have HT : Hid (trial L ir tf t m = ir) := by simp [Hid, trial, hrs]
                    clear b3
                    by_cases hg2 : gtF (R1 L n ir t (m + 1)) ir = true
                    · have hg2' : (FloatKind.f64.format.order (R1 L n ir t (m + 1)) ir == some .gt) = true := hg2
                      have HM4w : Hid (∀ q o, Mem L n ir tf w w.heap.size bf bp be (R2 L n ir tf t r) (R2 L n ir tf t r) (((wr.setCell ⟨be, m, none⟩ (.float .f64 ir)).alloc o).drewN q)) := fun q o =>
                        ((HM.out.setE (i := m) (by omega) ir).congr fun j hj => r2_hit HU.out HT.out hg2 j).next (below_drewN' ((Below.refl _ _).alloc (Nat.le_refl _) _) q)
                      clear hg2 HM
                      go_wp2
                      have HM4 := (show Hid _ from HM4w.out 0 (.cells #[.float .f64 (layOf (L m)).rate, .int .i64 (layOf (L m)).spent, .float .f64 (layOf (L m)).ref, .int .i64 0, .int .i64 0, .float .f64 0] 26))
                      clear HM4w
                      go_loopw [28] (fun vi wr => ∃ k : Nat, k ≤ n ∧ vi = .int .i64 k ∧ Hid (Mem L n ir tf w w.heap.size bf bp be (R2 L n ir tf t r) (R2 L n ir tf t r) wr)) (fun vi _ => n - (intOf vi).toNat)
                      case atStart => exact ⟨0, Nat.zero_le _, rfl, HM4⟩
                      case round =>
                        obtain ⟨k, hk, rfl, HM⟩ := hrel
                        clear HM4
                        have c12 := HM.out.pac.c12
                        have c3 := HM.out.pac.c3
                        have c4 := HM.out.pac.c4
                        have d1 := HM.out.d1
                        have d2 := HM.out.d2
                        have d3 := HM.out.d3
                        have d4 := HM.out.d4
                        have hbf : bf < wr.heap.size := by omega
                        have hbl : w.heap.size < wr.heap.size := by omega
                        by_cases hlt : k < n
                        · have r0 : wr.cell? ⟨w.heap.size, k * 6, none⟩ = some (.float .f64 (R2 L n ir tf t r k)) := (HM.out.row.lay k hlt).1
                          have r1 : wr.cell? ⟨w.heap.size, k * 6 + 1, none⟩ = some (.int .i64 (L k).spent) := (HM.out.row.lay k hlt).2.1
                          have r2 : wr.cell? ⟨w.heap.size, k * 6 + 2, none⟩ = some (.float .f64 (layOf (L k)).ref) := (HM.out.row.lay k hlt).2.2.1
                          have r3 : wr.cell? ⟨w.heap.size, k * 6 + 3, none⟩ = some (.int .i64 (L k).rs) := (HM.out.row.lay k hlt).2.2.2.1
                          have r4 := (HM.out.row.lay k hlt).2.2.2.2.1
                          have r5 := (HM.out.row.lay k hlt).2.2.2.2.2
                          have b1 : wr.cell? ⟨bf, k * 6 + 1, none⟩ = some (.int .i64 (L k).spent) := (HM.out.bef.lay k hlt).2.1
                          have b2 : wr.cell? ⟨bf, k * 6 + 2, none⟩ = some (.float .f64 (layOf (L k)).ref) := (HM.out.bef.lay k hlt).2.2.1
                          have b3 : wr.cell? ⟨bf, k * 6 + 3, none⟩ = some (.int .i64 (L k).rs) := (HM.out.bef.lay k hlt).2.2.2.1
                          have e0 := HM.out.exp.cell k hlt
                          have o1 := order_refl (HG.out.r2 hlt r)
                          have o2 := order_refl (HG.out.refOk hlt)
                          have o3 := order_refl zero_ok
                          have HQ : Hid (∀ w', Below wr.heap.size wr w' → Mem L n ir tf w w.heap.size bf bp be (R2 L n ir tf t r) (R2 L n ir tf t r) w') := fun w' h => HM.out.next h
                          clear HM
                          go_wp2_with fail
                          go_quiet (fail)
                          go_wp2_with fail
                          go_quiet (fail)
                          go_wp2
                          go_roundw
                          case rel => exact ⟨k + 1, by omega, by go_num, HQ.out _ (below_drewN' ((Below.refl _ _).alloc (Nat.le_refl _) _) _)⟩
                          case measure => simp [intOf]; omega
                        · have o1 := order_refl HG.out.ir.nnum.num.ok
                          have o2 := order_refl HG.out.tf.ok
                          have HB : Hid (Below w.heap.size w wr) := HM.out.below
                          clear HM
                          go_wp2
                          go_ret
                          exact ⟨rfl, HB.out⟩
                    · have hg2' : (FloatKind.f64.format.order (R1 L n ir t (m + 1)) ir == some .gt) = false := Bool.eq_false_iff.2 hg2
                      have HM4w : Hid (∀ q o, Mem L n ir tf w w.heap.size bf bp be (R2 L n ir tf t r) (R2 L n ir tf t r) ((wr.alloc o).drewN q)) := fun q o =>
                        (HM.out.congr fun j hj => r2_miss HU.out HT.out (Bool.eq_false_iff.2 hg2) j).next (below_drewN' ((Below.refl _ _).alloc (Nat.le_refl _) _) q)
                      clear hg2 HM
                      go_wp2
                      have HM4 := (show Hid _ from HM4w.out 0 (.cells #[.float .f64 (layOf (L m)).rate, .int .i64 (layOf (L m)).spent, .float .f64 (layOf (L m)).ref, .int .i64 0, .int .i64 0, .float .f64 0] 26))
                      clear HM4w
                      go_loopw [28] (fun vi wr => ∃ k : Nat, k ≤ n ∧ vi = .int .i64 k ∧ Hid (Mem L n ir tf w w.heap.size bf bp be (R2 L n ir tf t r) (R2 L n ir tf t r) wr)) (fun vi _ => n - (intOf vi).toNat)
                      case atStart => exact ⟨0, Nat.zero_le _, rfl, HM4⟩
                      case round =>
                        obtain ⟨k, hk, rfl, HM⟩ := hrel
                        clear HM4
                        have c12 := HM.out.pac.c12
                        have c3 := HM.out.pac.c3
                        have c4 := HM.out.pac.c4
                        have d1 := HM.out.d1
                        have d2 := HM.out.d2
                        have d3 := HM.out.d3
                        have d4 := HM.out.d4
                        have hbf : bf < wr.heap.size := by omega
                        have hbl : w.heap.size < wr.heap.size := by omega
                        by_cases hlt : k < n
                        · have r0 : wr.cell? ⟨w.heap.size, k * 6, none⟩ = some (.float .f64 (R2 L n ir tf t r k)) := (HM.out.row.lay k hlt).1
                          have r1 : wr.cell? ⟨w.heap.size, k * 6 + 1, none⟩ = some (.int .i64 (L k).spent) := (HM.out.row.lay k hlt).2.1
                          have r2 : wr.cell? ⟨w.heap.size, k * 6 + 2, none⟩ = some (.float .f64 (layOf (L k)).ref) := (HM.out.row.lay k hlt).2.2.1
                          have r3 : wr.cell? ⟨w.heap.size, k * 6 + 3, none⟩ = some (.int .i64 (L k).rs) := (HM.out.row.lay k hlt).2.2.2.1
                          have r4 := (HM.out.row.lay k hlt).2.2.2.2.1
                          have r5 := (HM.out.row.lay k hlt).2.2.2.2.2
                          have b1 : wr.cell? ⟨bf, k * 6 + 1, none⟩ = some (.int .i64 (L k).spent) := (HM.out.bef.lay k hlt).2.1
                          have b2 : wr.cell? ⟨bf, k * 6 + 2, none⟩ = some (.float .f64 (layOf (L k)).ref) := (HM.out.bef.lay k hlt).2.2.1
                          have b3 : wr.cell? ⟨bf, k * 6 + 3, none⟩ = some (.int .i64 (L k).rs) := (HM.out.bef.lay k hlt).2.2.2.1
                          have e0 := HM.out.exp.cell k hlt
                          have o1 := order_refl (HG.out.r2 hlt r)
                          have o2 := order_refl (HG.out.refOk hlt)
                          have o3 := order_refl zero_ok
                          have HQ : Hid (∀ w', Below wr.heap.size wr w' → Mem L n ir tf w w.heap.size bf bp be (R2 L n ir tf t r) (R2 L n ir tf t r) w') := fun w' h => HM.out.next h
                          clear HM
                          go_wp2_with fail
                          go_quiet (fail)
                          go_wp2_with fail
                          go_quiet (fail)
                          go_wp2
                          go_roundw
                          case rel => exact ⟨k + 1, by omega, by go_num, HQ.out _ (below_drewN' ((Below.refl _ _).alloc (Nat.le_refl _) _) _)⟩
                          case measure => simp [intOf]; omega
                        · have o1 := order_refl HG.out.ir.nnum.num.ok
                          have o2 := order_refl HG.out.tf.ok
                          have HB : Hid (Below w.heap.size w wr) := HM.out.below
                          clear HM
                          go_wp2
                          go_ret
                          exact ⟨rfl, HB.out⟩
                  · have b3' : wr.cell? ⟨bf, m * 6 + 3, none⟩ = some (.int .i64 (L m).rs) := b3
                    have hz : ((L m).rs != 0) = true := by simpa using hrs
                    have q1 : ∀ w : World, (binOp .mul 22 (.float .f64 tf) (.float .f64 t)).run Yba.prog w = .ok (.float .f64 (fmul tf t)) w := fun w => run_float_arith w .mul 22 .f64 _ _ _ HG.out.tft.1
                    have q2 : ∀ w : World, (binOp .mul 22 (.float .f64 (layOf (L m)).ref) (.float .f64 (fmul tf t))).run Yba.prog w = .ok (.float .f64 (fmul (layOf (L m)).ref (fmul tf t))) w := fun w => run_float_arith w .mul 22 .f64 _ _ _ (HG.out.refm (by omega) hrs).1
                    have q3 : ∀ w : World, (binOp .quo 22 (.float .f64 (fmul (layOf (L m)).ref (fmul tf t))) (.float .f64 (money (L m).rs))).run Yba.prog w = .ok (.float .f64 (fdiv (fmul (layOf (L m)).ref (fmul tf t)) (money (L m).rs))) w := fun w => run_float_arith w .quo 22 .f64 _ _ _ (HG.out.refd (by omega) hrs).1
                    have hmin := fun ats ty w => run_min (P := Yba.prog) (HG.out.refd (i := m) (by omega) hrs).2 ats ty w
                    have HT0 : Hid (trial L ir tf t m = fmin1 (fdiv (fmul (layOf (L m)).ref (fmul tf t)) (money (L m).rs))) := by simp [Hid, trial, hrs]
                    generalize hX : fmin1 (fdiv (fmul (layOf (L m)).ref (fmul tf t)) (money (L m).rs)) = X at *
                    have HT : Hid (trial L ir tf t m = X) := HT0
                    clear b3 HT0 hX hrs
                    by_cases hg2 : gtF (R1 L n ir t (m + 1)) X = true
                    · have hg2' : (FloatKind.f64.format.order (R1 L n ir t (m + 1)) X == some .gt) = true := hg2
                      have HM4w : Hid (∀ q o, Mem L n ir tf w w.heap.size bf bp be (R2 L n ir tf t r) (R2 L n ir tf t r) (((wr.alloc o).drewN q).setCell ⟨be, m, none⟩ (.float .f64 X))) := fun q o =>
                        ((HM.out.next (below_drewN' ((Below.refl _ _).alloc (Nat.le_refl _) o) q)).setE (i := m) (by omega) X).congr fun j hj => r2_hit HU.out HT.out hg2 j
                      clear hg2 HM
                      go_wp2_with fail
                      go_quiet ((go_at_call 9; refine Calls.quiet_of_same (float64_any _ _)))
                      go_wp2
                      have HM4 := (show Hid _ from HM4w.out nq (.cells #[.float .f64 (layOf (L m)).rate, .int .i64 (layOf (L m)).spent, .float .f64 (layOf (L m)).ref, .int .i64 (L m).rs, .int .i64 0, .float .f64 0] 26))
                      clear HM4w
                      go_loopw [28] (fun vi wr => ∃ k : Nat, k ≤ n ∧ vi = .int .i64 k ∧ Hid (Mem L n ir tf w w.heap.size bf bp be (R2 L n ir tf t r) (R2 L n ir tf t r) wr)) (fun vi _ => n - (intOf vi).toNat)
                      case atStart => exact ⟨0, Nat.zero_le _, rfl, HM4⟩
                      case round =>
                        obtain ⟨k, hk, rfl, HM⟩ := hrel
                        clear HM4
                        have c12 := HM.out.pac.c12
                        have c3 := HM.out.pac.c3
                        have c4 := HM.out.pac.c4
                        have d1 := HM.out.d1
                        have d2 := HM.out.d2
                        have d3 := HM.out.d3
                        have d4 := HM.out.d4
                        have hbf : bf < wr.heap.size := by omega
                        have hbl : w.heap.size < wr.heap.size := by omega
                        by_cases hlt : k < n
                        · have r0 : wr.cell? ⟨w.heap.size, k * 6, none⟩ = some (.float .f64 (R2 L n ir tf t r k)) := (HM.out.row.lay k hlt).1
                          have r1 : wr.cell? ⟨w.heap.size, k * 6 + 1, none⟩ = some (.int .i64 (L k).spent) := (HM.out.row.lay k hlt).2.1
                          have r2 : wr.cell? ⟨w.heap.size, k * 6 + 2, none⟩ = some (.float .f64 (layOf (L k)).ref) := (HM.out.row.lay k hlt).2.2.1
                          have r3 : wr.cell? ⟨w.heap.size, k * 6 + 3, none⟩ = some (.int .i64 (L k).rs) := (HM.out.row.lay k hlt).2.2.2.1
                          have r4 := (HM.out.row.lay k hlt).2.2.2.2.1
                          have r5 := (HM.out.row.lay k hlt).2.2.2.2.2
                          have b1 : wr.cell? ⟨bf, k * 6 + 1, none⟩ = some (.int .i64 (L k).spent) := (HM.out.bef.lay k hlt).2.1
                          have b2 : wr.cell? ⟨bf, k * 6 + 2, none⟩ = some (.float .f64 (layOf (L k)).ref) := (HM.out.bef.lay k hlt).2.2.1
                          have b3 : wr.cell? ⟨bf, k * 6 + 3, none⟩ = some (.int .i64 (L k).rs) := (HM.out.bef.lay k hlt).2.2.2.1
                          have e0 := HM.out.exp.cell k hlt
                          have o1 := order_refl (HG.out.r2 hlt r)
                          have o2 := order_refl (HG.out.refOk hlt)
                          have o3 := order_refl zero_ok
                          have HQ : Hid (∀ w', Below wr.heap.size wr w' → Mem L n ir tf w w.heap.size bf bp be (R2 L n ir tf t r) (R2 L n ir tf t r) w') := fun w' h => HM.out.next h
                          clear HM
                          go_wp2_with fail
                          go_quiet (fail)
                          go_wp2_with fail
                          go_quiet (fail)
                          go_wp2
                          go_roundw
                          case rel => exact ⟨k + 1, by omega, by go_num, HQ.out _ (below_drewN' ((Below.refl _ _).alloc (Nat.le_refl _) _) _)⟩
                          case measure => simp [intOf]; omega
                        · have o1 := order_refl HG.out.ir.nnum.num.ok
                          have o2 := order_refl HG.out.tf.ok
                          have HB : Hid (Below w.heap.size w wr) := HM.out.below
                          clear HM
                          go_wp2
                          go_ret
                          exact ⟨rfl, HB.out⟩
                    · have hg2' : (FloatKind.f64.format.order (R1 L n ir t (m + 1)) X == some .gt) = false := Bool.eq_false_iff.2 hg2
                      have HM4w : Hid (∀ q o, Mem L n ir tf w w.heap.size bf bp be (R2 L n ir tf t r) (R2 L n ir tf t r) ((wr.alloc o).drewN q)) := fun q o =>
                        (HM.out.congr fun j hj => r2_miss HU.out HT.out (Bool.eq_false_iff.2 hg2) j).next (below_drewN' ((Below.refl _ _).alloc (Nat.le_refl _) _) q)
                      clear hg2 HM
                      go_wp2_with fail
                      go_quiet ((go_at_call 9; refine Calls.quiet_of_same (float64_any _ _)))
                      go_wp2
                      have HM4 := (show Hid _ from HM4w.out nq (.cells #[.float .f64 (layOf (L m)).rate, .int .i64 (layOf (L m)).spent, .float .f64 (layOf (L m)).ref, .int .i64 (L m).rs, .int .i64 0, .float .f64 0] 26))
                      clear HM4w
                      go_loopw [28] (fun vi wr => ∃ k : Nat, k ≤ n ∧ vi = .int .i64 k ∧ Hid (Mem L n ir tf w w.heap.size bf bp be (R2 L n ir tf t r) (R2 L n ir tf t r) wr)) (fun vi _ => n - (intOf vi).toNat)
                      case atStart => exact ⟨0, Nat.zero_le _, rfl, HM4⟩
                      case round =>
                        obtain ⟨k, hk, rfl, HM⟩ := hrel
                        clear HM4
                        have c12 := HM.out.pac.c12
                        have c3 := HM.out.pac.c3
                        have c4 := HM.out.pac.c4
                        have d1 := HM.out.d1
                        have d2 := HM.out.d2
                        have d3 := HM.out.d3
                        have d4 := HM.out.d4
                        have hbf : bf < wr.heap.size := by omega
                        have hbl : w.heap.size < wr.heap.size := by omega
                        by_cases hlt : k < n
                        · have r0 : wr.cell? ⟨w.heap.size, k * 6, none⟩ = some (.float .f64 (R2 L n ir tf t r k)) := (HM.out.row.lay k hlt).1
                          have r1 : wr.cell? ⟨w.heap.size, k * 6 + 1, none⟩ = some (.int .i64 (L k).spent) := (HM.out.row.lay k hlt).2.1
                          have r2 : wr.cell? ⟨w.heap.size, k * 6 + 2, none⟩ = some (.float .f64 (layOf (L k)).ref) := (HM.out.row.lay k hlt).2.2.1
                          have r3 : wr.cell? ⟨w.heap.size, k * 6 + 3, none⟩ = some (.int .i64 (L k).rs) := (HM.out.row.lay k hlt).2.2.2.1
                          have r4 := (HM.out.row.lay k hlt).2.2.2.2.1
                          have r5 := (HM.out.row.lay k hlt).2.2.2.2.2
                          have b1 : wr.cell? ⟨bf, k * 6 + 1, none⟩ = some (.int .i64 (L k).spent) := (HM.out.bef.lay k hlt).2.1
                          have b2 : wr.cell? ⟨bf, k * 6 + 2, none⟩ = some (.float .f64 (layOf (L k)).ref) := (HM.out.bef.lay k hlt).2.2.1
                          have b3 : wr.cell? ⟨bf, k * 6 + 3, none⟩ = some (.int .i64 (L k).rs) := (HM.out.bef.lay k hlt).2.2.2.1
                          have e0 := HM.out.exp.cell k hlt
                          have o1 := order_refl (HG.out.r2 hlt r)
                          have o2 := order_refl (HG.out.refOk hlt)
                          have o3 := order_refl zero_ok
                          have HQ : Hid (∀ w', Below wr.heap.size wr w' → Mem L n ir tf w w.heap.size bf bp be (R2 L n ir tf t r) (R2 L n ir tf t r) w') := fun w' h => HM.out.next h
                          clear HM
                          go_wp2_with fail
                          go_quiet (fail)
                          go_wp2_with fail
                          go_quiet (fail)
                          go_wp2
                          go_roundw
                          case rel => exact ⟨k + 1, by omega, by go_num, HQ.out _ (below_drewN' ((Below.refl _ _).alloc (Nat.le_refl _) _) _)⟩
                          case measure => simp [intOf]; omega
                        · have o1 := order_refl HG.out.ir.nnum.num.ok
                          have o2 := order_refl HG.out.tf.ok
                          have HB : Hid (Below w.heap.size w wr) := HM.out.below
                          clear HM
                          go_wp2
                          go_ret
                          exact ⟨rfl, HB.out⟩
              · have hgt' : (FloatKind.f64.format.order (R1 L n ir t k) 0 == some .gt) = false := Bool.eq_false_iff.2 hgt
                have HS : Hid (∀ j, j < k + 1 → gtF (R1 L n ir t j) 0 = false) := fun j hj => by
                  by_cases e : j = k
                  · rw [e]; exact Bool.eq_false_iff.2 hgt
                  · exact HJ.out j (by omega)
                clear hgt HJ
                go_wp2
                go_roundw
                case rel => exact ⟨k + 1, by omega, rfl, by go_num, HS, HM⟩
                case measure => simp [intOf]; omega
            · obtain rfl : n = k := by omega
              have HU : Hid (r = -1) := HLow.out.uniq (.inl ⟨rfl, HJ.out⟩)
              have HM4 : Hid (Mem L n ir tf w w.heap.size bf bp be (R2 L n ir tf t r) (R2 L n ir tf t r) wr) := HM.out.congr fun j hj => by rw [HU.out]; simp [R2]
              clear HM HJ hlt
              go_wp2
              go_loopw [28] (fun vi wr => ∃ k : Nat, k ≤ n ∧ vi = .int .i64 k ∧ Hid (Mem L n ir tf w w.heap.size bf bp be (R2 L n ir tf t r) (R2 L n ir tf t r) wr)) (fun vi _ => n - (intOf vi).toNat)
              case atStart => exact ⟨0, Nat.zero_le _, rfl, HM4⟩
              case round =>
                obtain ⟨k, hk, rfl, HM⟩ := hrel
                clear HM4
                have c12 := HM.out.pac.c12
                have c3 := HM.out.pac.c3
                have c4 := HM.out.pac.c4
                have d1 := HM.out.d1
                have d2 := HM.out.d2
                have d3 := HM.out.d3
                have d4 := HM.out.d4
                have hbf : bf < wr.heap.size := by omega
                have hbl : w.heap.size < wr.heap.size := by omega
                by_cases hlt : k < n
                · have r0 : wr.cell? ⟨w.heap.size, k * 6, none⟩ = some (.float .f64 (R2 L n ir tf t r k)) := (HM.out.row.lay k hlt).1
                  have r1 : wr.cell? ⟨w.heap.size, k * 6 + 1, none⟩ = some (.int .i64 (L k).spent) := (HM.out.row.lay k hlt).2.1
                  have r2 : wr.cell? ⟨w.heap.size, k * 6 + 2, none⟩ = some (.float .f64 (layOf (L k)).ref) := (HM.out.row.lay k hlt).2.2.1
                  have r3 : wr.cell? ⟨w.heap.size, k * 6 + 3, none⟩ = some (.int .i64 (L k).rs) := (HM.out.row.lay k hlt).2.2.2.1
                  have r4 := (HM.out.row.lay k hlt).2.2.2.2.1
                  have r5 := (HM.out.row.lay k hlt).2.2.2.2.2
                  have b1 : wr.cell? ⟨bf, k * 6 + 1, none⟩ = some (.int .i64 (L k).spent) := (HM.out.bef.lay k hlt).2.1
                  have b2 : wr.cell? ⟨bf, k * 6 + 2, none⟩ = some (.float .f64 (layOf (L k)).ref) := (HM.out.bef.lay k hlt).2.2.1
                  have b3 : wr.cell? ⟨bf, k * 6 + 3, none⟩ = some (.int .i64 (L k).rs) := (HM.out.bef.lay k hlt).2.2.2.1
                  have e0 := HM.out.exp.cell k hlt
                  have o1 := order_refl (HG.out.r2 hlt r)
                  have o2 := order_refl (HG.out.refOk hlt)
                  have o3 := order_refl zero_ok
                  have HQ : Hid (∀ w', Below wr.heap.size wr w' → Mem L n ir tf w w.heap.size bf bp be (R2 L n ir tf t r) (R2 L n ir tf t r) w') := fun w' h => HM.out.next h
                  clear HM
                  go_wp2_with fail
                  go_quiet (fail)
                  go_wp2_with fail
                  go_quiet (fail)
                  go_wp2
                  go_roundw
                  case rel => exact ⟨k + 1, by omega, by go_num, HQ.out _ (below_drewN' ((Below.refl _ _).alloc (Nat.le_refl _) _) _)⟩
                  case measure => simp [intOf]; omega
                · have o1 := order_refl HG.out.ir.nnum.num.ok
                  have o2 := order_refl HG.out.tf.ok
                  have HB : Hid (Below w.heap.size w wr) := HM.out.below
                  clear HM
                  go_wp2
                  go_ret
                  exact ⟨rfl, HB.out⟩
end Go.Proofs.Ybulkaklc
