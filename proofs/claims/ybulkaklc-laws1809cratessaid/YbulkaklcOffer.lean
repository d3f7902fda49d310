/-
  'offerTrial', 'lowestPaced': contracts.
-/
import Derived.Test.YbulkaklcTrial
namespace Go.Proofs.Ybulkaklc
open Go.RowKit
attribute [local go_sem] run_store_float

theorem grown_of_below {w w' : World} (h : Below w.heap.size w w') (row : Option Nat) : w.grownBy w' row := ⟨h.os, h.tape, h.output, h.size, fun k hk _ => h.block k hk⟩
theorem grown_trans {w w1 w2 : World} {row : Option Nat} (h : w.grownBy w1 row) (h' : w1.grownBy w2 row) : w.grownBy w2 row :=
  ⟨h'.os.trans h.os, h'.tape.trans h.tape, h'.output.trans h.output, Nat.le_trans h.size h'.size, fun k hk hne => (h'.block k (Nat.lt_of_lt_of_le hk h.size) hne).trans (h.block k hk hne)⟩
theorem grown_set (w : World) (b j : Nat) (v : Value) : w.grownBy (w.setCell ⟨b, j, none⟩ v) (some b) :=
  ⟨rfl, rfl, rfl, by simp, fun k _ hne => Below.heap_setCell _ _ _ _ (fun e => hne (by rw [e]))⟩
theorem Pac.grown {w w' : World} {bp bl n ir tf : Nat} (h : Pac w bp bl n ir tf) (hg : w.grownBy w' (some bl)) (hne : bp ≠ bl) : Pac w' bp bl n ir tf :=
  ⟨hg.cell h.c3 (by simpa using hne), hg.cell h.c4 (by simpa using hne), hg.cell h.c12 (by simpa using hne)⟩

section
variable {L : Nat → Ly} {n ir tf t : Nat}
/-- The rates behind the offer of layer i. -/
def offered (L : Nat → Ly) (ir tf t : Nat) (R : Nat → Nat) (i j : Nat) : Nat := if j + 1 = i ∧ gtF (R i) (trial L ir tf t j) = true then trial L ir tf t j else R j

set_option maxHeartbeats 1600000 in
theorem offer_any (bp bl i : Nat) (R : Nat → Nat) (w : World) (hg : Hid (Good L n ir tf t)) (hp : Pac w bp bl n ir tf) (hR : Row w bl n (lays L R)) (hi : i < n) (hn : n ≤ 1024) :
    Calls Yba.prog 14 #[.pointer (some ⟨bp, 0, none⟩), .int .i64 i, .float .f64 t] w fun e w' => e = .returned (.tuple #[]) ∧ Row w' bl n (lays L (offered L ir tf t R i)) ∧ w.grownBy w' (some bl) := by
  by_cases h0 : i = 0
  · subst h0
    go_enter Yba.func14, Yba.ntmps14
    go_wp2
    refine bodyPost_ret (results_none rfl _ _ _) rfl ?_
    exact ⟨rfl, hR.congr fun j hj => by simp [lays, offered], World.grownBy.refl _ _⟩
  · obtain ⟨m, rfl⟩ : ∃ m, i = m + 1 := ⟨i - 1, by omega⟩
    clear h0
    have HP : Hid (Pac w bp bl n ir tf) := hp
    have HR : Hid (Row w bl n (lays L R)) := hR
    have hbl : bl < w.heap.size := World.block_lt_of_cell? w _ (hR.lay m (by omega)).1
    have hpl := hp.lt
    clear hp hR
    go_enter Yba.func14, Yba.ntmps14
    go_wp2_with fail
    refine (trial_any bp bl m R _ hg HP.out HR.out (by omega)).mono ?_
    rintro e w1 ⟨rfl, hb⟩
    have HP1 : Hid (Pac w1 bp bl n ir tf) := HP.out.below hb hpl
    have HR1 : Hid (Row w1 bl n (lays L R)) := HR.out.below hb hbl
    have hgr := grown_of_below hb (some bl)
    have c12 := HP1.out.c12
    have r0 : w1.cell? ⟨bl, (m + 1) * 6, none⟩ = some (.float .f64 (R (m + 1))) := (HR1.out.lay (m + 1) hi).1
    have r1 : w1.cell? ⟨bl, m * 6, none⟩ = some (.float .f64 (R m)) := (HR1.out.lay m (by omega)).1
    have f1 := HR1.out.fz (m * 6)
    have e1 : ((m + 1 : Nat) : Int) = (m : Int) + 1 := by omega
    clear hb HP HR hpl
    by_cases hgt : gtF (R (m + 1)) (trial L ir tf t m) = true
    · have HS : Hid (Row (w1.setCell ⟨bl, m * 6, none⟩ (.float .f64 (trial L ir tf t m))) bl n (lays L (offered L ir tf t R (m + 1)))) := by
        refine (HR1.out.setRate (i := m) (by omega) _).congr fun j hj => ?_
        by_cases e : j = m
        · subst e
          simp [upd, lays, offered, hgt]
        · rw [upd_other _ _ e]
          simp [lays, offered, e]
      have hgt' : (FloatKind.f64.format.order (R (m + 1)) (trial L ir tf t m) == some .gt) = true := hgt
      clear hgt HR1 HP1
      go_wp2
      go_end0
      exact ⟨rfl, HS.out, grown_trans hgr (grown_set _ _ _ _)⟩
    · have HS : Hid (Row w1 bl n (lays L (offered L ir tf t R (m + 1)))) := by
        refine HR1.out.congr fun j hj => ?_
        by_cases e : j = m
        · subst e
          simp [lays, offered, hgt]
        · simp [lays, offered, e]
      have hgt' : (FloatKind.f64.format.order (R (m + 1)) (trial L ir tf t m) == some .gt) = false := Bool.eq_false_iff.2 hgt
      clear hgt HR1 HP1
      go_wp2
      go_end0
      exact ⟨rfl, HS.out, hgr⟩

theorem closure_any (rate : Nat) (spent : Int) (ref : Nat) (rs won : Int) (pctr : Nat) (w : World) :
    Calls Yba.prog 16 #[.agg #[.float .f64 rate, .int .i64 spent, .float .f64 ref, .int .i64 rs, .int .i64 won, .float .f64 pctr]] w fun e w' => e = .returned (.bool (gtF rate 0)) ∧ Below w.heap.size w w' := by
  go_enter Yba.func16, Yba.ntmps16
  go_wp2
  go_ret
  exact ⟨rfl, (Below.refl _ _).alloc (Nat.le_refl _) _⟩
theorem index_any (bl : Nat) (R : Nat → Nat) (w : World) (hR : Hid (Row w bl n (lays L R))) (hbl : 0 < n → bl < w.heap.size) (hn : n ≤ 1024) :
    Calls Yba.prog 15 #[.slice (some ⟨bl, 0, none⟩) n n, .func (.func 16) #[] #[]] w fun e w' => (∃ r, e = .returned (.int .i64 r) ∧ Low R n r) ∧ Below w.heap.size w w' := by
  go_enter Yba.func15, Yba.ntmps15
  go_wp2
  go_loopw [8] (fun vi wr => ∃ k : Nat, k ≤ n ∧ vi = .int .i64 k ∧ Hid (∀ j, j < k → gtF (R j) 0 = false) ∧ Below w.heap.size w wr) (fun vi _ => n - (intOf vi).toNat)
  case atStart => exact ⟨0, Nat.zero_le _, rfl, fun j hj => absurd hj (Nat.not_lt_zero j), Below.refl _ _⟩
  case round =>
    obtain ⟨k, hk, rfl, HJ, hb⟩ := hrel
    by_cases hlt : k < n
    · obtain ⟨c0, c1, c2, c3, c4, c5⟩ := (hR.out.lay k hlt).below hb (hbl (by omega))
      go_wp2_with fail
      refine (closure_any _ _ _ _ _ _ _).mono ?_
      rintro e w1 ⟨rfl, hb1⟩
      have hb2 : Below w.heap.size w w1 := hb.trans (hb1.mono hb.size)
      clear c0 c1 c2 c3 c4 c5 hb hb1
      by_cases hg : gtF (R k) 0 = true
      · have hg' : gtF (lays L R k).rate 0 = true := hg
        rw [hg']
        go_wp2
        go_ret
        exact ⟨⟨_, rfl, .inr ⟨k, rfl, hlt, hg, HJ.out⟩⟩, hb2⟩
      · have hg' : gtF (lays L R k).rate 0 = false := Bool.eq_false_iff.2 hg
        have HS : Hid (∀ j, j < k + 1 → gtF (R j) 0 = false) := fun j hj => by
          by_cases e : j = k
          · rw [e]; exact Bool.eq_false_iff.2 hg
          · exact HJ.out j (by omega)
        rw [hg']
        go_wp2
        go_roundw
        case rel => exact ⟨k + 1, by omega, by go_num, HS, hb2⟩
        case measure => simp [intOf]; omega
    · obtain rfl : k = n := by omega
      go_wp2
      go_ret
      exact ⟨⟨_, rfl, .inl ⟨rfl, HJ.out⟩⟩, hb⟩
theorem lowest_any (bp bl : Nat) (R : Nat → Nat) (w : World) (hp : Pac w bp bl n ir tf) (hR : Row w bl n (lays L R)) (hn : n ≤ 1024) :
    Calls Yba.prog 13 #[.pointer (some ⟨bp, 0, none⟩)] w fun e w' => (∃ r, e = .returned (.int .i64 r) ∧ Low R n r) ∧ Below w.heap.size w w' := by
  obtain ⟨c3, c4, c12⟩ := hp
  go_enter Yba.func13, Yba.ntmps13
  have HR : Hid (Row w bl n (lays L R)) := hR
  have hbl : Hid (0 < n → bl < w.heap.size) := fun h => World.block_lt_of_cell? w _ (hR.lay 0 h).1
  clear hR
  go_wp2_with fail
  refine (index_any bl R _ HR hbl.out hn).mono ?_
  rintro e w1 ⟨⟨r, rfl, hr⟩, hb⟩
  go_wp2
  go_ret
  exact ⟨⟨r, rfl, hr⟩, hb⟩
end
end Go.Proofs.Ybulkaklc
