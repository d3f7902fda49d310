/-
  'fill': the walk.
-/
import Derived.Test.YbulkaklcOffer
namespace Go.Proofs.Ybulkaklc
open Go.RowKit
attribute [local go_sem] run_store_float

section
variable {L : Nat → Ly} {n ir tf t : Nat}
/-- One step of the walk, of what it leaves in the row. -/
theorem step_row {w : World} {bl k : Nat} (hR : Row w bl n (lays L (rateAt L n ir t k))) (hk : k < n) {x : Nat} (hx : outRate L ir (n - 1 - k) (st L n ir t k) = x) :
    Row (w.setCell ⟨bl, (n - 1 - k) * 6, none⟩ (.float .f64 x)) bl n (lays L (rateAt L n ir t (k + 1))) := by
  refine (hR.setRate (i := n - 1 - k) (by omega) x).congr fun j hj => ?_
  by_cases e : j = n - 1 - k
  · subst e
    rw [upd_same]
    simp only [lays, rateAt_step hk, if_true, hx]
  · rw [upd_other _ _ e]
    simp only [lays, rateAt_step hk, if_neg e]
theorem step_keep {w : World} {bl k : Nat} (hR : Row w bl n (lays L (rateAt L n ir t k))) (hk : k < n) (hx : outRate L ir (n - 1 - k) (st L n ir t k) = over255 (L (n - 1 - k)).rate) :
    Row w bl n (lays L (rateAt L n ir t (k + 1))) := by
  refine hR.congr fun j hj => ?_
  simp only [lays, rateAt_step hk]
  by_cases e : j = n - 1 - k
  · subst e
    rw [if_pos rfl, hx]
    unfold rateAt
    rw [if_neg (by omega)]
  · rw [if_neg e]

/-- At the head of the loop. -/
structure Head (L : Nat → Ly) (n ir tf t bp bl k : Nat) (w0 w : World) : Prop where
  row : Row w bl n (lays L (rateAt L n ir t k))
  pac : Pac w bp bl n ir tf
  grown : w0.grownBy w (some bl)
theorem Head.set {bp bl k : Nat} {w0 w : World} (h : Head L n ir tf t bp bl k w0 w) (hne : bp ≠ bl) (hk : k < n) {x : Nat} (hx : outRate L ir (n - 1 - k) (st L n ir t k) = x) (q : Nat) :
    Head L n ir tf t bp bl (k + 1) w0 ((w.drewN q).setCell ⟨bl, (n - 1 - k) * 6, none⟩ (.float .f64 x)) :=
  ⟨step_row (w := w.drewN q) ⟨h.row.lay, h.row.fz⟩ hk hx, (Pac.set (w := w.drewN q) ⟨h.pac.c3, h.pac.c4, h.pac.c12⟩ (Ne.symm hne) _), grown_trans (grown_trans h.grown (grown_of_below (below_drewN' (Below.refl _ _) q) _)) (grown_set _ _ _ _)⟩
theorem Head.keep {bp bl k : Nat} {w0 w : World} (h : Head L n ir tf t bp bl k w0 w) (hk : k < n) (hx : outRate L ir (n - 1 - k) (st L n ir t k) = over255 (L (n - 1 - k)).rate) (q : Nat) :
    Head L n ir tf t bp bl (k + 1) w0 (w.drewN q) :=
  ⟨step_keep (w := w.drewN q) ⟨h.row.lay, h.row.fz⟩ hk hx, ⟨h.pac.c3, h.pac.c4, h.pac.c12⟩, grown_trans h.grown (grown_of_below (below_drewN' (Below.refl _ _) q) _)⟩

set_option maxHeartbeats 3200000 in
set_option maxRecDepth 100000 in
theorem fill_any (bp bl : Nat) (w : World) (hg : Hid (Good L n ir tf t)) (hp : Pac w bp bl n ir tf) (hR : Row w bl n (fun i => layOf (L i))) (hne : bp ≠ bl) (hbl : bl < w.heap.size) (hn : n ≤ 1024) :
    Calls Yba.prog 11 #[.pointer (some ⟨bp, 0, none⟩), .float .f64 t] w fun e w' => e = .returned (.tuple #[]) ∧ (∃ r, Low (R1 L n ir t) n r ∧ Row w' bl n (lays L (R2 L n ir tf t r))) ∧ w.grownBy w' (some bl) := by
  have H0 : Hid (Head L n ir tf t bp bl 0 w w) := ⟨hR.congr fun i hi => by simp only [lays, rateAt_zero hi]; rfl, hp, World.grownBy.refl _ _⟩
  have c12 := hp.c12
  clear hR hp
  go_enter Yba.func11, Yba.ntmps11
  go_wp2
  clear c12
  go_loopw [4, 5, 6] (fun v4 v5 v6 wr => ∃ k : Nat, k ≤ n ∧ v4 = .float .f64 (st L n ir t k).1 ∧ v5 = .bool (st L n ir t k).2 ∧ v6 = .int .i64 ((n : Int) - 1 - k) ∧ Hid (Head L n ir tf t bp bl k w wr)) (fun _ _ v6 _ => (intOf v6 + 1).toNat)
  case atStart => exact ⟨0, Nat.zero_le _, rfl, rfl, by go_num, H0⟩
  case round =>
    obtain ⟨k, hk, rfl, rfl, rfl, HH⟩ := hrel
    clear H0
    by_cases hlt : k < n
    · obtain ⟨i, hi, hik⟩ : ∃ i : Nat, i = n - 1 - k ∧ (n : Int) - 1 - k = i := ⟨n - 1 - k, rfl, by omega⟩
      have hin : i < n := by omega
      have c12 := HH.out.pac.c12
      have c3 := HH.out.pac.c3
      obtain ⟨g0, g1, _, _, _, _⟩ := HH.out.row.lay i hin
      have f0 := HH.out.row.fz (i * 6)
      have q1 : ∀ w : World, (binOp .quo 22 (.float .f64 (money (L i).spent)) (.float .f64 ir)).run Yba.prog w = .ok (.float .f64 (fullOf L ir i)) w := fun w => run_float_arith w .quo 22 .f64 _ _ _ (hg.out.full hin)
      have g1' : wr.cell? ⟨bl, i * 6 + 1, none⟩ = some (.int .i64 (L i).spent) := g1
      clear g1
      rw [hik]
      have hst : st L n ir t (k + 1) = nextS L ir i (st L n ir t k) := by rw [hi]; rfl
      have HO : Hid (OK (st L n ir t k).1) := hg.out.st k (by omega)
      have HX : Hid (outRate L ir (n - 1 - k) (st L n ir t k) = outRate L ir i (st L n ir t k)) := by rw [hi]; exact rfl
      have HI : Hid (i = n - 1 - k) := hi
      have hik' : ((n : Int) - 1 - ((k + 1 : Nat) : Int)) = (i : Int) - 1 := by omega
      generalize hs : st L n ir t k = s at *
      obtain ⟨left, filled⟩ := s
      have HSS : Hid (st L n ir t k = (left, filled)) := hs
      have HST : Hid (st L n ir t (k + 1) = nextS L ir i (left, filled)) := hst
      clear hs hst hi
      have HSet : Hid (∀ x q, outRate L ir i (left, filled) = x → Head L n ir tf t bp bl (k + 1) w ((wr.drewN q).setCell ⟨bl, i * 6, none⟩ (.float .f64 x))) := fun x q hx => by
        have h := HH.out.set hne hlt (x := x) (by rw [HSS.out, HX.out]; exact hx) q
        rwa [← HI.out] at h
      have HKeep : Hid (∀ q, outRate L ir i (left, filled) = over255 (L i).rate → Head L n ir tf t bp bl (k + 1) w (wr.drewN q)) := fun q hx => by
        exact HH.out.keep hlt (by rw [HSS.out, HX.out, hx, HI.out]) q
      clear HH HX HSS
      cases filled with
      | true =>
        have HN : Hid (st L n ir t (k + 1) = (left, true)) := by rw [HST.out]; simp [Hid, nextS]
        have HQ : Hid (∀ q, Head L n ir tf t bp bl (k + 1) w ((wr.drewN q).setCell ⟨bl, i * 6, none⟩ (.float .f64 0))) := fun q => HSet.out 0 q (by simp [outRate])
        clear HSet HKeep HST
        go_wp2_with fail
        go_quiet ((go_at_call 9; refine Calls.quiet_of_same (float64_any _ _)))
        go_wp2
        go_roundw
        case rel => exact ⟨k + 1, by omega, by rw [HN.out], by rw [HN.out], by rw [hik'], HQ.out _⟩
        case measure => simp [intOf]
      | false =>
        by_cases hsp : (L i).spent = 0
        · have HN : Hid (st L n ir t (k + 1) = (left, false)) := by rw [HST.out]; simp [Hid, nextS, hsp]
          have HQ : Hid (∀ q, Head L n ir tf t bp bl (k + 1) w (wr.drewN q)) := fun q => HKeep.out q (by simp [outRate, hsp])
          have hz : ((L i).spent == 0) = true := by simpa using hsp
          clear HSet HKeep HST hsp
          go_wp2_with fail
          go_quiet ((go_at_call 9; refine Calls.quiet_of_same (float64_any _ _)))
          go_wp2
          go_roundw
          case rel => exact ⟨k + 1, by omega, by rw [HN.out], by rw [HN.out], by rw [hik'], HQ.out _⟩
          case measure => simp [intOf]
        · have hz : ((L i).spent == 0) = false := by simpa using hsp
          obtain ⟨o, ho⟩ := order_ok (hg.out.nnum hin hsp).num.ok HO.out
          have ho' : FloatKind.f64.format.order (fullOf L ir i) left = some o := ho
          clear ho
          by_cases hle : o = .gt
          · subst hle
            have hf : leF (fullOf L ir i) left = false := by unfold leF; rw [ho']; rfl
            have q2 : ∀ w : World, (binOp .quo 22 (.float .f64 left) (.float .f64 (fullOf L ir i))).run Yba.prog w = .ok (.float .f64 (fdiv left (fullOf L ir i))) w := fun w => run_float_arith w .quo 22 .f64 _ _ _ (div_ok HO.out (hg.out.nnum hin hsp)).1
            have HN : Hid (st L n ir t (k + 1) = (left, true)) := by rw [HST.out]; simp [Hid, nextS, hsp, hf]
            have HQ : Hid (∀ q, Head L n ir tf t bp bl (k + 1) w ((wr.drewN q).setCell ⟨bl, i * 6, none⟩ (.float .f64 (fdiv left (fullOf L ir i))))) := fun q => HSet.out _ q (by simp [outRate, hsp, hf])
            clear HSet HKeep HST hsp hf
            go_wp2_with fail
            go_quiet ((go_at_call 9; refine Calls.quiet_of_same (float64_any _ _)))
            go_wp2
            go_roundw
            case rel => exact ⟨k + 1, by omega, by rw [HN.out], by rw [HN.out], by rw [hik'], HQ.out _⟩
            case measure => simp [intOf]
          · have hf : leF (fullOf L ir i) left = true := by
              unfold leF; rw [ho']
              cases o
              · rfl
              · rfl
              · exact absurd rfl hle
            have q2 : ∀ w : World, (binOp .sub 22 (.float .f64 left) (.float .f64 (fullOf L ir i))).run Yba.prog w = .ok (.float .f64 (fsub left (fullOf L ir i))) w := fun w => run_float_arith w .sub 22 .f64 _ _ _ (sub_ok HO.out (hg.out.nnum hin hsp).num).1
            have HN : Hid (st L n ir t (k + 1) = (fsub left (fullOf L ir i), false)) := by rw [HST.out]; simp [Hid, nextS, hsp, hf]
            have HQ : Hid (∀ q, Head L n ir tf t bp bl (k + 1) w ((wr.drewN q).setCell ⟨bl, i * 6, none⟩ (.float .f64 4607182418800017408))) := fun q => HSet.out _ q (by simp [outRate, hsp, hf])
            have ho2 : o = .lt ∨ o = .eq := by cases o <;> simp_all
            clear HSet HKeep HST hsp hf hle
            rcases ho2 with rfl | rfl
            all_goals
              go_wp2_with fail
              go_quiet ((go_at_call 9; refine Calls.quiet_of_same (float64_any _ _)))
              go_wp2
              go_roundw
              case rel => exact ⟨k + 1, by omega, by rw [HN.out], by rw [HN.out], by rw [hik'], HQ.out _⟩
              case measure => simp [intOf]
    · obtain rfl : k = n := by omega
      have HR : Hid (Row wr bl k (lays L (R1 L k ir t))) := HH.out.row.congr fun j hj => by simp only [lays, rateAt_all]
      have HP : Hid (Pac wr bp bl k ir tf) := HH.out.pac
      have HG : Hid (w.grownBy wr (some bl)) := HH.out.grown
      have hbp := HP.out.lt
      clear HH
      go_wp2_with fail
      refine (lowest_any bp bl _ _ HP.out HR.out hn).mono ?_
      rintro e w1 ⟨⟨r, rfl, hlow⟩, hb⟩
      have hG1 : Hid (w.grownBy w1 (some bl)) := grown_trans HG.out (grown_of_below hb _)
      rcases hlow with ⟨rfl, hno⟩ | ⟨i, rfl, hi, hg1, hg2⟩
      · have HRR : Hid (Row w1 bl k (lays L (R2 L k ir tf t (-1)))) := by
          exact (HR.out.below hb (Nat.lt_of_lt_of_le hbl HG.out.size)).congr fun j hj => by simp [lays, R2]
        go_wp2
        go_end0
        exact ⟨rfl, ⟨-1, .inl ⟨rfl, hno⟩, HRR.out⟩, hG1.out⟩
      · have hbl := World.block_lt_of_cell? wr _ (HR.out.lay i hi).1
        go_wp2_with fail
        refine (offer_any bp bl i _ _ hg (HP.out.below hb hbp) (HR.out.below hb hbl) hi hn).mono ?_
        rintro e w2 ⟨rfl, hrow, hgr⟩
        have HRR : Hid (Row w2 bl k (lays L (R2 L k ir tf t i))) := hrow.congr fun j hj => by
          simp only [lays, offered, R2]
          by_cases e : j + 1 = i
          · subst e
            have e1 : (0 : Int) < ((j + 1 : Nat) : Int) := by omega
            have e2 : (j : Int) = ((j + 1 : Nat) : Int) - 1 := by omega
            simp only [e1, ← e2, true_and]
          · have e2 : ¬ (j : Int) = (i : Int) - 1 := by omega
            simp only [e, e2, false_and, and_false, if_false]
        go_wp2
        go_end0
        exact ⟨rfl, ⟨i, .inr ⟨i, rfl, hi, hg1, hg2⟩, HRR.out⟩, grown_trans hG1.out hgr⟩
end
end Go.Proofs.Ybulkaklc
